/- A part of a proof, joined by a program out of smaller texts (conditions: those that each theorem names). -/
import Derived.Test.YtkdialecadjedaaGreatDoorProg
import Derived.WalkKit
import Derived.KernelRfl
import Derived.OrdersHeld
import Derived.Maps.AppendAt
import Derived.Laws.OwnMore
import Derived.Laws.BytesArg
import Derived.Laws.CopyRow
import Derived.Laws.FloatArith
import Derived.Lib.Bytes
import Derived.Laws.Externs
import Derived.Tactics
import Derived.Tactics2
import Derived.Defers
import Derived.Recover
import Derived.Laws.Pointers
import Derived.MapKept
import Derived.Laws.IdiomStrings
import Derived.Lib.BufferWrite
import Derived.Laws.Cover2
import Derived.Lib.AppendStr
import Derived.Test.YtkdialecadjedaaGreatDoorRows
import Derived.OpenShut
import Derived.SevenTiedAt
import Derived.ChangeSlices
import Derived.ProofKit
import Derived.LaidMore
import Derived.Stop.Joined
import Derived.Stop.LaidErr
import Derived.Lib.SmallJoins
import Derived.JoinedCond
import Derived.Deep.Frames
import Derived.WideKeyArgs
namespace Go.Proofs.YtkdialecadjedaaGreatDoor
set_option linter.unusedVariables false
set_option linter.unusedSimpArgs false
set_option linter.unusedSectionVars false
set_option maxRecDepth 100000
set_option maxHeartbeats 8000000
open Go IntKind
abbrev bK:=@Array.getD_eq_getD_getElem?
abbrev cn:=@Array.getElem?_eq_getElem
abbrev bG:=@Array.getElem?_eq_none
abbrev aS:=@Array.getElem?_eq_some_iff
abbrev bH:=@Array.getElem?_toList
abbrev bD:=@Array.length_toList
abbrev aM:=@Bool.and_eq_true
abbrev be:=@Bool.false_eq_true
abbrev bY:=@Bool.not_eq_true
abbrev cg:=@Bool.or_eq_true
abbrev bB:=@DataW.trod_struct
abbrev br:=@Int.eq_ofNat_of_zero_le
abbrev aY:=@Int.tdiv_eq_ediv_of_nonneg
abbrev bz:=@Int.tmod_eq_emod_of_nonneg
abbrev au:=@Int.toNat_natCast
abbrev ak:=@List.Sublist.refl
abbrev ch:=@List.all_eq_true
abbrev an:=@List.append_assoc
abbrev aE:=@List.append_nil
abbrev bX:=@List.cons_append
abbrev aJ:=@List.drop_drop
abbrev bw:=@List.drop_eq_getElem_cons
abbrev bF:=@List.drop_of_length_le
abbrev aF:=@List.eq_nil_of_length_eq_zero
abbrev aj:=@List.flatMap_append
abbrev av:=@List.flatMap_cons
abbrev aD:=@List.flatMap_nil
abbrev bJ:=@List.getD_eq_getElem?_getD
abbrev bU:=@List.getElem?_append_right
abbrev ai:=@List.getElem?_eq_getElem
abbrev cm:=@List.getElem?_eq_some_iff
abbrev aW:=@List.getElem?_map
abbrev cj:=@List.getElem?_take
abbrev ax:=@List.getElem_mem
abbrev ae:=@List.length_append
abbrev aA:=@List.length_cons
abbrev az:=@List.length_drop
abbrev ay:=@List.length_nil
abbrev bi:=@List.length_replicate
abbrev bq:=@List.length_take
abbrev bM:=@List.map_append
abbrev aX:=@List.map_cons
abbrev aV:=@List.mem_append
abbrev bx:=@List.mem_append_left
abbrev bh:=@List.mem_append_right
abbrev aI:=@List.mem_cons
abbrev bC:=@List.mem_map
abbrev aQ:=@List.mem_singleton
abbrev bI:=@List.nil_append
abbrev bT:=@List.nodup_append
abbrev bW:=@List.perm_middle
abbrev co:=@List.sublist_cons_self
abbrev bP:=@List.sum_cons
abbrev am:=@List.take_add_one
abbrev ck:=@List.take_append_drop
abbrev ce:=@List.take_left'
abbrev ao:=@List.take_length
abbrev bA:=@List.take_of_length_le
abbrev aP:=@List.take_zero
abbrev aT:=@Nat.eq_of_beq_eq_true
abbrev bL:=@Nat.eq_zero_or_pos
abbrev bV:=@Nat.le_of_ble_eq_true
abbrev aN:=@Nat.le_refl
abbrev ci:=@Nat.lt_of_lt_of_le
abbrev cd:=@Nat.min_eq_left
abbrev bf:=@Nat.mod_eq_of_lt
abbrev bd:=@Nat.mul_one
abbrev bS:=@Nat.pow_add
abbrev bR:=@Nat.pow_le_pow_right
abbrev aR:=@Nat.two_pow_pos
abbrev aK:=@Nat.zero_add
abbrev bE:=@Nat.zero_le
abbrev bQ:=@Option.bind_eq_some_iff
abbrev bZ:=@Option.isSome_iff_exists
abbrev aU:=@Option.map_some
abbrev aZ:=@Option.some.injEq
abbrev aC:=@Option.some_ne_none
abbrev aB:=@Result.andThen_ok
abbrev aL:=@Sem.run_bind
abbrev bv:=@Sem.run_pure
abbrev bN:=@Value.slice.injEq
abbrev af:=@decide_eq_false_iff_not
abbrev ah:=@decide_eq_true_eq
abbrev bO:=@if_false
abbrev ap:=@if_neg
abbrev aG:=@if_pos
abbrev aO:=@of_decide_eq_true
abbrev aH:=@run_underlying
abbrev ca:=@strOfNums_size
variable {P:Program} {w w' W:World} {n c b k m i j o g M sz bytes p1 p3:Nat} {t ty T e:TypeId} {a l:Option Addr} {v c0 c1:Value} {xs ys A:List Int} {cells vs:List Value} {r:Option Nat} {f:FuncId} {s x:Int} {G:Nat->Prop} {K:Option Addr->Nat->Nat->World->Prop} {Q:Value->Prop} {R:Ending->World->Prop}

/-! ### Frames as lists: slot, value, and the Bool that is known to stand there. -/
abbrev Env:=List (Nat×Value×Option Bool)
def Env.val:Env->Nat->Value
 | [],_=>undef
 | (i,v,_)::r,j=>bif Nat.beq i j then v else Env.val r j
def Env.dec:Env->Nat->Option Bool
 | [],_=>none
 | (i,_,d)::r,j=>bif Nat.beq i j then d else Env.dec r j
def Env.op (e:Env):Operand->Value
 | .tmp t=>e.val t
 | .const v=>v
 | .global g=>.pointer (some ⟨g,0,none⟩)
 | .func f=>.func (.func f) #[] #[]
def Env.decOp (e:Env):Operand->Option Bool
 | .tmp t=>e.dec t
 | .const (.bool b)=>some b
 | _=>none
structure Agree (n:Nat) (e:Env) (a:Act):Prop where
 size:a.tmps.size=n
 get:∀j,a.tmps.getD j undef=e.val j
 dec:∀j b,e.dec j=some b->e.val j=.bool b
 defers:a.defers=[]
theorem Agree.eval {e:Env} {a:Act} (h:Agree n e a) (x:Operand):a.eval x=e.op x:=by
 cases x with
 | tmp t=>exact h.get t
 | const v=>rfl
 | global g=>rfl
 | func f=>rfl
theorem Agree.evals {e:Env} {a:Act} (h:Agree n e a):a.eval=e.op:=funext h.eval
theorem Env.val_cons (i:Nat) (v:Value) (d:Option Bool) (r:Env) (j:Nat):Env.val ((i,v,d)::r) j=if i=j then v else Env.val r j:=by
 by_cases h:i=j
 ·subst h;simp [Env.val]
 ·have:Nat.beq i j=false:=by rw [<-bY];exact fun hb=>h (aT hb)
  simp [Env.val,this,h]
theorem Env.dec_cons (i:Nat) (v:Value) (d:Option Bool) (r:Env) (j:Nat):Env.dec ((i,v,d)::r) j=if i=j then d else Env.dec r j:=by
 by_cases h:i=j
 ·subst h;simp [Env.dec]
 ·have:Nat.beq i j=false:=by rw [<-bY];exact fun hb=>h (aT hb)
  simp [Env.dec,this,h]
theorem Agree.decOp {e:Env} {a:Act} (h:Agree n e a) {x:Operand} {b:Bool} (hd:e.decOp x=some b):e.op x=.bool b:=by
 cases x with
 | tmp t=>exact h.dec t b hd
 | const v=>cases v<;>simp [Env.decOp] at hd;subst hd;rfl
 | global g=>cases hd
 | func f=>cases hd
theorem Agree.put {e:Env} {a:Act} (h:Agree n e a) (d:Nat) (hd:d < n) (v:Value) (k:Option Bool) (hk:∀b,k=some b->v=.bool b) :
  Agree n ((d,v,k)::e) (a.put (some d) v) where
 size:=by simp [Act.put,h.size]
 get j:=by
  rw [Env.val_cons]
  by_cases hj:d=j
  ·subst hj
   simp [Act.put,Array.getElem?_setIfInBounds_self,h.size,hd]
  ·rw [ap hj,<-h.get j]
   simp [Act.put,Array.getElem?_setIfInBounds_ne hj]
 dec j b hb:=by
  rw [Env.dec_cons] at hb
  rw [Env.val_cons]
  by_cases hj:d=j
  ·rw [aG hj] at hb;rw [aG hj];exact hk b hb
  ·rw [ap hj] at hb;rw [ap hj];exact h.dec j b hb
 defers:=h.defers
theorem Agree.same {e:Env} {a:Act} (h:Agree n e a) (d:Nat) (b:Bool) (hv:e.val d=.bool b):Agree n ((d,.bool b,some b)::e) a where
 size:=h.size
 get j:=by
  rw [Env.val_cons]
  by_cases hj:d=j
  ·subst hj;rw [aG rfl,h.get,hv]
  ·rw [ap hj];exact h.get j
 dec j b' hb:=by
  rw [Env.dec_cons] at hb
  rw [Env.val_cons]
  by_cases hj:d=j
  ·rw [aG hj] at hb;rw [aG hj];cases hb;rfl
  ·rw [ap hj] at hb;rw [ap hj];exact h.dec j b' hb
 defers:=h.defers

/-! ### Values by their types -/
def ex1 (k:TypeDesc) (Q:Value->Prop):Prop:=
 match k with
 | .int k=>∃n:Int,Q (.int k n)
 | .bool=>∃b:Bool,Q (.bool b)
 | .string=>∃s:ByteArray,Q (.string s)
 | .pointer _=>∃a:Option Addr,Q (.pointer a)
 | .slice _=>∃(a:Option Addr) (l c:Nat),Q (.slice a l c)
 | .float k=>∃b:Nat,Q (.float k b)
 | .func _ _ _=>∃(f:FuncId) (x y:Array Value),Q (.func (.func f) x y)
 | _=>∃v,Q v
theorem ex1_some {k:TypeDesc} (h:ex1 k Q):∃v,Q v:=by
 cases k<;>first
  | (obtain ⟨_,_,_,h⟩:=h;exact ⟨_,h⟩)
  | (obtain ⟨_,h⟩:=h;exact ⟨_,h⟩)
def exs:List TypeDesc->(List Value->Prop)->Prop
 | [],Q=>Q []
 | k::ks,Q=>ex1 k fun v=>exs ks fun vs=>Q (v::vs)
theorem exs_some:∀{ks:List TypeDesc} {Q:List Value->Prop},exs ks Q->∃vs,Q vs
 | [],_,h=>⟨[],h⟩
 | _::_,_,h=>let ⟨_,h1⟩:=ex1_some h;let ⟨_,h2⟩:=exs_some h1;⟨_,h2⟩
def cellKs (P:Program):Nat->TypeId->List TypeDesc
 | 0,_=>[]
 | d+1,t=>match P.underlying t with
  | some (.struct fs)=>fs.toList.flatMap fun f=>cellKs P d f.type
  | some k=>[k]
  | none=>[]
def exK (P:Program) (t:TypeId) (Q:Value->Prop):Prop:=
 match P.underlying t with
 | some (.struct _)=>bif Nat.ble (P.cellsOf t) 8 then exs (cellKs P 3 t) fun vs=>Q (.agg vs.toArray) else ∃v,Q v
 | some (.array _ _)=>∃v,Q v
 | some k=>ex1 k Q
 | none=>False
theorem exK_some (h:exK P t Q):∃v,Q v:=by
 unfold exK at h
 split at h
 ·cases hb:Nat.ble (P.cellsOf t) 8<;>simp only [hb,cond_true,cond_false] at h
  ·exact h
  ·obtain ⟨vs,h⟩:=exs_some h;exact ⟨_,h⟩
 ·exact h
 ·exact ex1_some h
 ·exact h.elim
def exKs (P:Program):List TypeId->(List Value->Prop)->Prop
 | [],Q=>Q []
 | t::ts,Q=>exK P t fun v=>exKs P ts fun vs=>Q (v::vs)
theorem exKs_some:∀{ts:List TypeId} {Q:List Value->Prop},exKs P ts Q->∃vs,Q vs
 | [],_,h=>⟨[],h⟩
 | _::_,_,h=>let ⟨_,h1⟩:=exK_some h;let ⟨_,h2⟩:=exKs_some h1;⟨_,h2⟩
def exT (P:Program) (t:TypeId) (Q:Value->Prop):Prop:=
 match P.underlying t with
 | some (.tuple es)=>exKs P es.toList fun vs=>Q (.tuple vs.toArray)
 | _=>exK P t Q
theorem exT_some (h:exT P t Q):∃v,Q v:=by
 unfold exT at h
 split at h
 ·obtain ⟨vs,h⟩:=exKs_some h;exact ⟨_,h⟩
 ·exact exK_some h

/-! ### Words for numbers and addresses -/
def ishl (k:IntKind) (a b:Int):Int:=k.wrap (a*2 ^ (min b.toNat k.bits))
def ishr (k:IntKind) (a b:Int):Int:=a.fdiv (2 ^ (min b.toNat k.bits))
def iand (k:IntKind) (a b:Int):Int:=k.wrap (BitVec.ofInt k.bits a &&& BitVec.ofInt k.bits b).toNat
def ior (k:IntKind) (a b:Int):Int:=k.wrap (BitVec.ofInt k.bits a ||| BitVec.ofInt k.bits b).toNat
def ixor (k:IntKind) (a b:Int):Int:=k.wrap (BitVec.ofInt k.bits a ^^^ BitVec.ofInt k.bits b).toNat
def iandn (k:IntKind) (a b:Int):Int:=k.wrap (BitVec.ofInt k.bits a &&& ~~~BitVec.ofInt k.bits b).toNat
def cutA (a:Option Addr) (l m sz:Nat):Option Addr:=if m=l then a else a.map (·.add (l*sz))
def isNilI:Value->Bool
 | .nilIface=>true
 | _=>false
def isIf:Value->Prop
 | .nilIface=>True
 | .iface _ _=>True
 | _=>False
def zeroC (P:Program) (t:TypeId):Array Value:=match (P.info? t).bind (·.zero) with
 | some z=>z.cells
 | none=>#[]
def hasZero (P:Program) (t:TypeId):Bool:=((P.info? t).bind (·.zero)).isSome
def gNew (cs:Array Value) (t:TypeId) (K:Addr->World->Prop) (w:World):Prop:=K ⟨w.heap.size,0,none⟩ (w.alloc (.cells cs t))
def LdV (P:Program) (t:TypeId) (a:Addr) (v:Value) (w:World):Prop:=(loadVar t a).run P w=.ok v w
def StV (P:Program) (t:TypeId) (a:Addr) (v:Value) (w w':World):Prop:=(storeVar t a v).run P w=.ok () w'
def gSem (P:Program) (t:TypeId) (s:Sem Value) (K:Value->World->Prop) (w:World):Prop:=exT P t fun v=>∃w',s.run P w=.ok v w'/\K v w'

/-! ### Operations that look at no memory: what they ask, and that they yield the same in every world -/
def sameK (k k':IntKind) (p:Prop):Prop:=match decide (k=k') with
 | true=>p
 | false=>False
theorem sameK_iff {k k':IntKind} {p:Prop} (h:sameK k k' p):k=k'/\p:=by
 unfold sameK at h
 split at h
 ·rename_i hd;exact ⟨aO hd,h⟩
 ·exact h.elim
def shiftVc (yo:Operand) (b:Int) (p:Prop):Prop:=match yo with
 | .const _=>(match decide (0<=b) with | true=>p | false=>False)
 | _=>0<=b/\p
theorem shiftVc_iff {yo:Operand} {b:Int} {p:Prop} (h:shiftVc yo b p):0<=b/\p:=by
 unfold shiftVc at h
 split at h
 ·split at h
  ·rename_i hd;exact ⟨aO hd,h⟩
  ·exact h.elim
 ·exact h
def intVc (op:BinOp) (k:IntKind) (a:Int) (k':IntKind) (b:Int) (yo:Operand) (Q:Value->Prop):Prop:=
 match op with
 | .add=>sameK k k' (Q (.int k (k.wrap (a+b))))
 | .sub=>sameK k k' (Q (.int k (k.wrap (a - b))))
 | .mul=>sameK k k' (Q (.int k (k.wrap (a*b))))
 | .quo=>sameK k k' (b≠0/\Q (.int k (k.wrap (a.tdiv b))))
 | .rem=>sameK k k' (b≠0/\Q (.int k (a.tmod b)))
 | .and=>sameK k k' (Q (.int k (iand k a b)))
 | .or=>sameK k k' (Q (.int k (ior k a b)))
 | .xor=>sameK k k' (Q (.int k (ixor k a b)))
 | .andNot=>sameK k k' (Q (.int k (iandn k a b)))
 | .shl=>shiftVc yo b (Q (.int k (ishl k a b)))
 | .shr=>shiftVc yo b (Q (.int k (ishr k a b)))
 | .eql=>sameK k k' (Q (.bool (a == b)))
 | .neq=>sameK k k' (Q (.bool (a != b)))
 | .lss=>sameK k k' (Q (.bool (decide (a < b))))
 | .leq=>sameK k k' (Q (.bool (decide (a<=b))))
 | .gtr=>sameK k k' (Q (.bool (decide (a > b))))
 | .geq=>sameK k k' (Q (.bool (decide (a>=b))))
theorem intVc_ok {op:BinOp} {k:IntKind} {a:Int} {k':IntKind} {b:Int} {yo:Operand} (t:TypeId) (h:intVc op k a k' b yo Q) :
  ∃v,Q v/\∀w,(binOp op t (.int k a) (.int k' b)).run P w=.ok v w:=by
 cases op<;>simp only [intVc] at h
 case shl=>obtain ⟨h0,h⟩:=shiftVc_iff h;exact ⟨_,h,fun w=>by simp [binOp,Op.shift,ishl,show ¬b < 0 by omega]⟩
 case shr=>obtain ⟨h0,h⟩:=shiftVc_iff h;exact ⟨_,h,fun w=>by simp [binOp,Op.shift,ishr,show ¬b < 0 by omega]⟩
 case quo=>obtain ⟨rfl,h0,h⟩:=sameK_iff h;exact ⟨_,h,fun w=>by simp [binOp,Op.intDiv,h0]⟩
 case rem=>obtain ⟨rfl,h0,h⟩:=sameK_iff h;exact ⟨_,h,fun w=>by simp [binOp,Op.intDiv,h0]⟩
 all_goals (obtain ⟨rfl,hq⟩:=sameK_iff h;exact ⟨_,hq,fun w=>by simp only [binOp,ne_eq,not_true_eq_false,bO];rfl⟩)
def strVc (op:BinOp) (a b:ByteArray) (Q:Value->Prop):Prop:=
 match op with
 | .add=>a.size+b.size<=9223372036854775807/\Q (.string (a++b))
 | .eql=>Q (.bool (a.toList == b.toList))
 | .neq=>Q (.bool (!(a.toList == b.toList)))
 | _=>False
theorem strVc_ok {op:BinOp} {a b:ByteArray} (t:TypeId) (h:strVc op a b Q) :
  ∃v,Q v/\∀w,(binOp op t (.string a) (.string b)).run P w=.ok v w:=by
 cases op<;>simp only [strVc] at h
 case add=>exact ⟨_,h.2,fun w=>by
  have:¬((a.size+b.size:Nat):Int) > i64.max:=by
   have h1:=h.1
   simp only [IntKind.max,IntKind.signed,IntKind.bits]
   omega
  simp only [binOp,Op.stringOp]
  rw [ap this]
  rfl⟩
 case eql=>exact ⟨_,h,fun w=>by simp [binOp,Op.stringOp]⟩
 case neq=>exact ⟨_,h,fun w=>by simp [binOp,Op.stringOp]⟩
 all_goals exact h.elim
def eqVc (op:BinOp) (b:Bool) (Q:Value->Prop):Prop:=
 match op with
 | .eql=>Q (.bool b)
 | .neq=>Q (.bool (!b))
 | _=>False
def binVc (P:Program) (op:BinOp) (t:TypeId) (yo:Operand) (x y:Value) (Q:Value->Prop):Prop:=
 match P.underlying t with
 | some (.int _)=>(match x,y with | .int k a,.int k' b=>intVc op k a k' b yo Q | _,_=>False)
 | some .string=>(match x,y with | .string a,.string b=>strVc op a b Q | _,_=>False)
 | some .bool=>(match x,y with | .bool a,.bool b=>eqVc op (a == b) Q | _,_=>False)
 | some (.slice _)=>(match x,y with | .slice a _ _,.slice none _ _=>eqVc op a.isNone Q | _,_=>False)
 | some (.pointer _)=>(match x,y with | .pointer a,.pointer none=>eqVc op a.isNone Q | _,_=>False)
 | some (.interface _)=>(match yo with | .const .nilIface=>isIf x/\eqVc op (isNilI x) Q | _=>False)
 | _=>False
theorem eqVc_ok {op:BinOp} {b:Bool} {x y:Value} (h:eqVc op b Q) (hk:∀w,(Op.equal t x y).run P w=.ok b w)
  (hx:(∀k n,x≠.int k n)/\(∀k n,x≠.float k n)/\(∀k n m,x≠.complex k n m)/\(∀s,x≠.string s)):∃v,Q v/\∀w,(binOp op t x y).run P w=.ok v w:=by
 cases op<;>simp only [eqVc] at h
 case eql=>
  refine ⟨_,h,fun w=>?_⟩
  cases x<;>first
   | (exfalso;first | exact hx.1 _ _ rfl | exact hx.2.1 _ _ rfl | exact hx.2.2.1 _ _ _ rfl | exact hx.2.2.2 _ rfl)
   | (cases y<;>simp [binOp,hk])
 case neq=>
  refine ⟨_,h,fun w=>?_⟩
  cases x<;>first
   | (exfalso;first | exact hx.1 _ _ rfl | exact hx.2.1 _ _ rfl | exact hx.2.2.1 _ _ _ rfl | exact hx.2.2.2 _ rfl)
   | (cases y<;>simp [binOp,hk])
 all_goals exact h.elim
theorem run_eqGuard (P:Program) (w:World) (op:BinOp) (t:TypeId) (xo yo:Operand) (x y:Value) (h1:∀a b,¬(x=.agg a/\y=.agg b)) (h2:x=.nilIface->y=.nilIface->∃c,yo=.const c) :
  (eqGuard op t xo yo x y).run P w=.ok () w:=by
 unfold eqGuard
 by_cases hop:(match op with | .eql | .neq=>true | _=>false)=true
 ·cases x<;>cases y<;>first
   | (exfalso;exact h1 _ _ ⟨rfl,rfl⟩)
   | (obtain ⟨c,rfl⟩:=h2 rfl rfl;cases op<;>simp at hop ⊢<;>(cases xo<;>simp))
   | (cases op<;>simp at hop ⊢)
 ·cases op<;>simp at hop ⊢
theorem equalIn_slice_nil (P:Program) (d:Nat) (t e:TypeId) (ht:P.underlying t=some (.slice e)) (a:Option Addr) (l c m k:Nat) (w:World) :
  (Op.equalIn (d+1) t (.slice a l c) (.slice none m k)).run P w=.ok a.isNone w:=by
 cases a<;>simp [Op.equalIn,aH ht]
theorem equal_slice_nil (P:Program) (t e:TypeId) (ht:P.underlying t=some (.slice e)) (a:Option Addr) (l c m k:Nat) (w:World) :
  (Op.equal t (.slice a l c) (.slice none m k)).run P w=.ok a.isNone w:=equalIn_slice_nil P 9999 t e ht a l c m k w
theorem equalIn_ptr_nil (P:Program) (d:Nat) (t e:TypeId) (ht:P.underlying t=some (.pointer e)) (a:Option Addr) (w:World) :
  (Op.equalIn (d+1) t (.pointer a) (.pointer none)).run P w=.ok a.isNone w:=by
 cases a<;>simp [Op.equalIn,aH ht]
theorem equal_ptr_nil (P:Program) (t e:TypeId) (ht:P.underlying t=some (.pointer e)) (a:Option Addr) (w:World) :
  (Op.equal t (.pointer a) (.pointer none)).run P w=.ok a.isNone w:=equalIn_ptr_nil P 9999 t e ht a w
theorem equalIn_if_nil (P:Program) (d:Nat) (t:TypeId) (ms:Array (String×TypeId)) (ht:P.underlying t=some (.interface ms)) (x:Value) (hx:isIf x) (w:World) :
  (Op.equalIn (d+1) t x .nilIface).run P w=.ok (isNilI x) w:=by
 cases x<;>simp [isIf] at hx<;>simp [Op.equalIn,aH ht,isNilI]
theorem equal_if_nil (P:Program) (t:TypeId) (ms:Array (String×TypeId)) (ht:P.underlying t=some (.interface ms)) (x:Value) (hx:isIf x) (w:World) :
  (Op.equal t x .nilIface).run P w=.ok (isNilI x) w:=equalIn_if_nil P 9999 t ms ht x hx w
theorem binVc_ok {op:BinOp} {xo yo:Operand} {x y:Value} (h:binVc P op t yo x y Q) (hy:∀c,yo=.const c->y=c) :
  ∃v,Q v/\∀w,(do eqGuard op t xo yo x y;binOp op t x y:Sem Value).run P w=.ok v w:=by
 have fin:∀{Q:Value->Prop},(∃v,Q v/\∀w,(binOp op t x y).run P w=.ok v w)->(∀a b,¬(x=.agg a/\y=.agg b))->(x=.nilIface->y=.nilIface->∃c,yo=.const c) ->
   ∃v,Q v/\∀w,(do eqGuard op t xo yo x y;binOp op t x y:Sem Value).run P w=.ok v w:=fun ⟨v,hq,hv⟩ h1 h2=>
  ⟨v,hq,fun w=>by rw [aL,run_eqGuard P w op t xo yo x y h1 h2];exact hv w⟩
 unfold binVc at h
 split at h
 ·split at h
  ·exact fin (intVc_ok t h) (by rintro _ _ ⟨h,_⟩;cases h) (by intro h;cases h)
  ·exact h.elim
 ·split at h
  ·exact fin (strVc_ok t h) (by rintro _ _ ⟨h,_⟩;cases h) (by intro h;cases h)
  ·exact h.elim
 ·rename_i ht
  split at h
  ·exact fin (eqVc_ok h (fun w=>run_equal_bool w t _ _ ht) ⟨by simp,by simp,by simp,by simp⟩) (by rintro _ _ ⟨h,_⟩;cases h) (by intro h;cases h)
  ·exact h.elim
 ·rename_i ht
  split at h
  ·exact fin (eqVc_ok h (fun w=>equal_slice_nil P t _ ht _ _ _ _ _ w) ⟨by simp,by simp,by simp,by simp⟩) (by rintro _ _ ⟨h,_⟩;cases h) (by intro h;cases h)
  ·exact h.elim
 ·rename_i ht
  split at h
  ·exact fin (eqVc_ok h (fun w=>equal_ptr_nil P t _ ht _ w) ⟨by simp,by simp,by simp,by simp⟩) (by rintro _ _ ⟨h,_⟩;cases h) (by intro h;cases h)
  ·exact h.elim
 ·rename_i ht
  split at h
  ·obtain rfl:=hy _ rfl
   refine fin (eqVc_ok h.2 (fun w=>equal_if_nil P t _ ht _ h.1 w) ?_) ?_ (fun _ _=>⟨_,rfl⟩)
   ·have:=h.1
    refine ⟨?_,?_,?_,?_⟩<;>intros<;>rintro rfl<;>exact this
   ·rintro _ _ ⟨h,hh⟩;cases hh
  ·exact h.elim
 ·exact h.elim
def unVc (op:UnOp) (x:Value) (Q:Value->Prop):Prop:=
 match op,x with
 | .not,.bool b=>Q (.bool (!b))
 | .neg,.int k n=>Q (.int k (k.wrap (0 - n)))
 | _,_=>False
theorem unVc_ok {op:UnOp} {x:Value} (h:unVc op x Q):∃v,Q v/\∀w,(Op.unary op x).run P w=.ok v w:=by
 unfold unVc at h
 split at h
 ·exact ⟨_,h,fun _=>rfl⟩
 ·exact ⟨_,h,fun _=>rfl⟩
 ·exact h.elim
def nilVc (P:Program) (x:Value) (Q:Value->Prop):Prop:=
 match x with
 | .pointer a=>∃p,a=some p/\Q (.pointer (some p))
 | .func fn a b=>(∀w,(execOp (fun _=>.func fn a b) { (default:Oper) with op:=.nilCheck (.tmp 0) }).run P w=.ok (.value (.func fn a b)) w)/\Q (.func fn a b)
 | _=>False
def upB (ρ:Operand->Value) (o:Option Operand) (most dflt:Nat) (Q:Nat->Prop):Prop:=
 match o with
 | none=>Q dflt
 | some x=>match ρ x with
  | .int _ n=>0<=n/\n<=(most:Int)/\Q n.toNat
  | _=>False
def sliceVc (P:Program) (t:TypeId) (x:Value) (lo hi mx:Option Operand) (ρ:Operand->Value) (Q:Value->Prop):Prop:=
 match P.underlying t with
 | some .string=>(match x,mx with
  | .string s,none=>upB ρ hi s.size s.size fun h=>upB ρ lo h 0 fun l=>Q (.string (s.extract l h))
  | _,_=>False)
 | some (.slice e)=>(match x,(hi.isSome || mx.isNone) with
  | .slice a len cap,true=>upB ρ mx cap cap fun m=>upB ρ hi m len fun h=>upB ρ lo h 0 fun l=>Q (.slice (cutA a l m (P.cellsOf e)) (h - l) (m - l))
  | _,_=>False)
 | _=>False
theorem upB_ok {ρ:Operand->Value} {o:Option Operand} {most dflt:Nat} {Q:Nat->Prop} (c:BoundsCode) (h:upB ρ o most dflt Q) :
  ∃n,Q n/\∀w,(match o.map ρ with | some v=>Instr.sliceBound v most c | none=>pure dflt:Sem Nat).run P w=.ok n w:=by
 unfold upB at h
 split at h
 ·exact ⟨_,h,fun w=>rfl⟩
 ·rename_i x
  split at h
  ·rename_i k n hx
   exact ⟨_,h.2.2,fun w=>by simp only [aU,hx];exact run_sliceBound w k n most c h.1 h.2.1⟩
  ·exact h.elim
theorem run_sizeOf (P:Program) (w:World) (t:TypeId) (h:(P.info? t).isSome=true):(sizeOf t).run P w=.ok (P.cellsOf t) w:=by
 obtain ⟨i,hi⟩:=bZ.1 h
 simp [sizeOf,typeInfo,hi,Program.cellsOf]
theorem sliceVc_ok {x:Value} {lo hi mx:Option Operand} {ρ:Operand->Value} (h:sliceVc P t x lo hi mx ρ Q)
  (hs:∀e,P.underlying t=some (.slice e)->(P.info? e).isSome=true) :
  ∃v,Q v/\∀w,(Instr.sliceAt t x (lo.map ρ) (hi.map ρ) (mx.map ρ)).run P w=.ok v w:=by
 unfold sliceVc at h
 split at h
 ·rename_i ht
  split at h
  ·rename_i s
   obtain ⟨hh,h,h1⟩:=upB_ok (P:=P) .sliceAlen h
   obtain ⟨ll,h,h2⟩:=upB_ok (P:=P) .sliceB h
   refine ⟨_,h,fun w=>?_⟩
   have e1:=h1 w
   have e2:=h2 w
   simp only [Instr.sliceAt,aL,aH ht,aB,Instr.slice,Option.map_none,Option.isSome_none,be,bO,Instr.sliceBounds]
   cases hi<;>cases lo<;>simp_all
  ·exact h.elim
 ·rename_i e ht
  split at h
  ·rename_i a len cap hb
   obtain ⟨m,h,h0⟩:=upB_ok (P:=P) (if true=true then .slice3Acap else .slice3Alen) h
   obtain ⟨hh,h,h1⟩:=upB_ok (P:=P) (if mx.isSome then .slice3B else .sliceAcap) h
   obtain ⟨ll,h,h2⟩:=upB_ok (P:=P) (if mx.isSome then .slice3C else .sliceB) h
   refine ⟨_,h,fun w=>?_⟩
   have e0:=h0 w
   have e1:=h1 w
   have e2:=h2 w
   have e3:=run_sizeOf P w e (hs e ht)
   simp only [Instr.sliceAt,aL,aH ht,aB,Instr.slice,Instr.sliceBounds]
   cases mx<;>cases hi<;>cases lo<;>simp_all [cutA]
  ·exact h.elim
 ·exact h.elim
def fieldOfT (P:Program) (t:TypeId) (f:Nat):Option Field:=match P.underlying t with
 | some (.struct fs)=>fs[f]?
 | _=>none
def fieldVc (P:Program) (t:TypeId) (x:Value) (f:Nat) (Q:Value->Prop):Prop:=
 match fieldOfT P t f with
 | some fd=>(match x,Nat.blt 0 (P.cellsOf fd.type) with
  | .pointer (some a),true=>Q (.pointer (some (a.add fd.offset)))
  | _,_=>False)
 | none=>False
theorem info_of_cells (h:0 < P.cellsOf t):(P.info? t).isSome=true:=by
 unfold Program.cellsOf at h
 cases hi:P.info? t with
 | none=>rw [hi] at h;simp at h
 | some i=>rfl
theorem fieldVc_ok {x:Value} {f:Nat} (h:fieldVc P t x f Q) :
  ∃v,Q v/\∀w,(Instr.fieldAt t x f).run P w=.ok v w:=by
 unfold fieldVc at h
 split at h
 ·rename_i fd hfd
  split at h
  ·rename_i a hb
   refine ⟨_,h,fun w=>?_⟩
   have hlt:0 < P.cellsOf fd.type:=by simp only [Nat.blt,Nat.ble_eq] at hb;omega
   unfold fieldOfT at hfd
   split at hfd
   ·rename_i fs ht
    have e:=run_sizeOf P w fd.type (info_of_cells hlt)
    simp [Instr.fieldAt,aH ht,hfd,Instr.sureAddr,fieldPlace,e,show ¬P.cellsOf fd.type=0 by omega]
   ·cases hfd
  ·exact h.elim
 ·exact h.elim
def indexVc (P:Program) (t:TypeId) (x i:Value) (Q:Value->Prop):Prop:=
 match P.underlying t,x,i with
 | some (.slice e),.slice a l _,.int _ n=>(match (P.info? e).isSome with
  | true=>∃p,a=some p/\0<=n/\n < (l:Int)/\Q (.pointer (some (p.add (n.toNat*P.cellsOf e))))
  | false=>False)
 | _,_,_=>False
theorem indexVc_ok {x i:Value} (h:indexVc P t x i Q) :
  ∃v,Q v/\∀w,(Instr.indexAt t x i).run P w=.ok v w:=by
 unfold indexVc at h
 split at h
 ·rename_i e a l c k n ht
  split at h
  ·rename_i hi
   obtain ⟨p,rfl,h0,h1,h⟩:=h
   refine ⟨_,h,fun w=>?_⟩
   have e:=run_sizeOf P w e hi
   simp [Instr.indexAt,aH ht,asIntOf,h0,h1,e]
  ·exact h.elim
 ·exact h.elim
def lenVc (P:Program) (t:TypeId) (x:Value) (Q:Value->Prop):Prop:=
 match P.underlying t,x with
 | some (.slice _),.slice _ l _=>Q (.int .i64 l)
 | some .string,.string s=>Q (.int .i64 s.size)
 | _,_=>False
theorem lenVc_ok {x:Value} (h:lenVc P t x Q):∃v,Q v/\∀w,(Builtin.len_ #[t] ty #[x]).run P w=.ok v w:=by
 unfold lenVc at h
 split at h
 ·rename_i ht;exact ⟨_,h,fun w=>by simp [Builtin.len_,aH ht,goInt]⟩
 ·rename_i ht;exact ⟨_,h,fun w=>by simp [Builtin.len_,aH ht,goInt]⟩
 ·exact h.elim
def convVc (P:Program) (s d:TypeId) (x:Value) (Q:Value->Prop):Prop:=
 match P.underlying s,P.underlying d,x with
 | some (.int _),some (.int k),.int _ n=>Q (.int k (k.wrap n))
 | _,_,_=>False
theorem convVc_ok {s d:TypeId} {x:Value} (h:convVc P s d x Q):∃v,Q v/\∀w,(convert s d x).run P w=.ok v w:=by
 unfold convVc at h
 split at h
 ·rename_i hs hd
  exact ⟨_,h,fun w=>by simp [convert,aH hs,aH hd,Conv.intToInt]⟩
 ·exact h.elim
def places (P:Program) (t:TypeId) (i:Nat):Option (Nat×Nat):=match P.underlying t with
 | some (.struct fs)=>(fs[i]?).map fun f=>(f.offset,P.cellsOf f.type)
 | _=>none
def fieldsKnown (P:Program) (t:TypeId):Bool:=match P.underlying t with
 | some (.struct fs)=>fs.toList.all fun f=>(P.info? f.type).isSome
 | _=>false
def buildVc (P:Program) (t:TypeId) (parts:List (Nat×Value)) (Q:Value->Prop):Prop:=
 match fieldsKnown P t,hasZero P t,Instr.fill (places P t) (zeroC P t) parts with
 | true,true,some cs=>Q (.agg cs)
 | _,_,_=>False
theorem run_mapM_places (P:Program) (w:World):∀(l:List Field),(l.all fun f=>(P.info? f.type).isSome)=true ->
  (l.mapM fun f=>(do pure (f.offset,<-sizeOf f.type):Sem (Nat×Nat))).run P w=.ok (l.map fun f=>(f.offset,P.cellsOf f.type)) w
 | [],_=>rfl
 | f::r,h=>by
  simp only [List.all_cons,aM] at h
  have ih:=run_mapM_places P w r h.2
  have e:=run_sizeOf P w f.type h.1
  rw [List.mapM_cons]
  simp only [aL,e,aB,bv,ih,aX]
theorem buildVc_ok {parts:Array (Nat×Value)} (h:buildVc P t parts.toList Q) :
  ∃v,Q v/\∀w,(Instr.build t parts).run P w=.ok v w:=by
 unfold buildVc at h
 split at h
 ·rename_i cs hk hz hf
  refine ⟨_,h,fun w=>?_⟩
  unfold fieldsKnown at hk
  split at hk
  ·rename_i fs ht
   unfold hasZero at hz
   obtain ⟨z,hz⟩:=bZ.1 hz
   obtain ⟨i,hi,hz'⟩:=bQ.1 hz
   have em:=run_mapM_places P w fs.toList hk
   have hp:(fun i=>((fs.toList.map fun f=>(f.offset,P.cellsOf f.type)).toArray)[i]?)=places P t:=by
    funext j
    simp [places,ht]
   have hzc:zeroC P t=z.cells:=by simp [zeroC,hi,hz']
   rw [hzc] at hf
   simp only [Instr.build,aL,zeroValue,typeInfo,run_program,aB,hi,bv,hz',aH ht]
   rw [Array.mapM_eq_mapM_toList]
   simp only [Sem.run_map,em,aB,hp,hf]
   rfl
  ·cases hk
 ·exact h.elim
def taVc (P:Program) (x:Value) (xt at_:TypeId) (ok:Bool) (Q:Value->Prop):Prop:=
 match ok with
 | true=>exK P at_ fun v=>∃b:Bool,(∀w,(Instr.typeAssert x xt at_ true).run P w=.ok (.tuple #[v,.bool b]) w)/\Q (.tuple #[v,.bool b])
 | false=>False
def exVc (x:Value) (i:Nat) (Q:Value->Prop):Prop:=
 match x with
 | .tuple vs=>(match vs[i]? with | some v=>Q v | none=>False)
 | _=>False
def minVc (args:List Value) (Q:Value->Prop):Prop:=
 match args with
 | [.int k x,.int _ y]=>Q (.int k (if y < x then y else x))
 | _=>False
def pickVc (c x y:Value) (Q:Value->Prop):Prop:=
 match c,x,y with
 | .bool c,.bool x,.bool y=>Q (.bool (bif c then x else y))
 | _,_,_=>False
theorem pickVc_ok {c x y:Value} (h:pickVc c x y Q):∃a b d:Bool,c=.bool a/\x=.bool b/\y=.bool d/\Q (.bool (bif a then b else d)):=by
 unfold pickVc at h
 split at h
 ·exact ⟨_,_,_,rfl,rfl,rfl,h⟩
 ·exact h.elim
def concreteT (P:Program) (t:TypeId):Bool:=match P.underlying t with
 | some (.interface _)=>false
 | none=>false
 | _=>true
def isPure (P:Program) (op:Op):Bool:=
 match op with
 | .move _ | .assign _ | .pick _ _ _ | .nilCheck _ | .fieldAddr _ _ _ | .indexAddr _ _ _ | .slice _ _ _ _ _ | .extract _ _ | .makeInterface _ _ | .makeFunc _ _ _ | .build _ _ | .typeAssert _ _ _ _=>true
 | .unOp _ t _=>(match P.underlying t with | some (.float _)=>false | _=>true)
 | .binOp _ t _ _ _=>(match P.underlying t with | some (.float _)=>false | some (.struct _)=>false | _=>true)
 | .convert s d _=>(match P.underlying s,P.underlying d with | some (.int _),some (.int _)=>true | _,_=>false)
 | .call { callee:=.builtin .len,.. }=>true
 | .call { callee:=.builtin .min,.. }=>true
 | _=>false
def pureVc (P:Program) (op:Op) (e:Env) (Q:Value->Prop):Prop:=
 match op with
 | .move x=>Q (e.op x)
 | .assign x=>Q (e.op x)
 | .pick c a b=>(match e.decOp c with | some true=>Q (e.op a) | some false=>Q (e.op b) | none=>pickVc (e.op c) (e.op a) (e.op b) Q)
 | .nilCheck x=>nilVc P (e.op x) Q
 | .fieldAddr t x f=>fieldVc P t (e.op x) f Q
 | .indexAddr t x i=>indexVc P t (e.op x) (e.op i) Q
 | .slice t x lo hi mx=>(match (match P.underlying t with | some (.slice el)=>(P.info? el).isSome | _=>true) with | true=>sliceVc P t (e.op x) lo hi mx e.op Q | false=>False)
 | .extract x i=>exVc (e.op x) i Q
 | .makeInterface t x=>(match concreteT P t with | true=>Q (.iface t (e.op x)) | false=>False)
 | .makeFunc fn a b=>Q (.func fn (a.map e.op) (b.map e.op))
 | .build t ps=>buildVc P t (ps.toList.map fun p=>(p.1,e.op p.2)) Q
 | .typeAssert x xt at_ ok=>taVc P (e.op x) xt at_ ok Q
 | .unOp op _ x=>unVc op (e.op x) Q
 | .binOp op t x y _=>binVc P op t y (e.op x) (e.op y) Q
 | .convert s d x=>convVc P s d (e.op x) Q
 | .call { callee:=.builtin .len,args,argTypes }=>(match args.toList,argTypes.toList with | [x],[t]=>lenVc P t (e.op x) Q | _,_=>False)
 | .call { callee:=.builtin .min,args,.. }=>minVc (args.toList.map e.op) Q
 | _=>False
theorem pureVc_ok {o:Oper} {e:Env} (hd:∀x b,e.decOp x=some b->e.op x=.bool b) (h:pureVc P o.op e Q):∃v,Q v/\∀w,(execOp e.op o).run P w=.ok (.value v) w:=by
 have lift:∀{s:Sem Value},(∃v,Q v/\∀w,s.run P w=.ok v w)->(∀w,(execOp e.op o).run P w=((do pure (.value (<-s)):Sem Next)).run P w)->∃v,Q v/\∀w,(execOp e.op o).run P w=.ok (.value v) w:=
  fun ⟨v,hq,hv⟩ he=>⟨v,hq,fun w=>by rw [he w,aL,hv w];rfl⟩
 obtain ⟨dst,op,type,pos,after,guard⟩:=o
 cases op<;>simp only [pureVc] at h
 case move x=>exact ⟨_,h,fun w=>rfl⟩
 case assign x=>exact ⟨_,h,fun w=>rfl⟩
 case pick c a b=>
  split at h
  ·rename_i hc;exact ⟨_,h,fun w=>by simp [execOp,hd _ _ hc,asBool]⟩
  ·rename_i hc;exact ⟨_,h,fun w=>by simp [execOp,hd _ _ hc,asBool]⟩
  ·obtain ⟨p,q,r,h1,h2,h3,hq⟩:=pickVc_ok h
   exact ⟨_,hq,fun w=>by cases p<;>simp [execOp,h1,h2,h3,asBool]⟩
 case nilCheck x=>
  unfold nilVc at h
  split at h
  ·rename_i a hx
   obtain ⟨p,rfl,h⟩:=h
   exact ⟨_,h,fun w=>by simp [execOp,hx]⟩
  ·rename_i fn a b hx
   exact ⟨_,h.2,fun w=>by have:=h.1 w;simpa [execOp,hx] using this⟩
  ·exact h.elim
 case fieldAddr t x f=>exact lift (fieldVc_ok h) fun w=>rfl
 case indexAddr t x i=>exact lift (indexVc_ok h) fun w=>rfl
 case slice t x lo hi mx=>
  split at h
  ·rename_i hb
   exact lift (sliceVc_ok h (fun el hel=>by simpa [hel] using hb)) fun w=>rfl
  ·exact h.elim
 case extract x i=>
  unfold exVc at h
  split at h
  ·rename_i vs hx
   split at h
   ·rename_i v hv;exact ⟨_,h,fun w=>by simp [execOp,Instr.extract,hx,hv]⟩
   ·exact h.elim
  ·exact h.elim
 case makeInterface t x=>
  split at h
  ·rename_i hc
   refine ⟨_,h,fun w=>?_⟩
   have:P.concrete t=true:=by
    unfold concreteT at hc
    unfold Program.concrete
    split at hc<;>simp_all
   simp [execOp,run_makeInterface w t _ this]
  ·exact h.elim
 case makeFunc fn a b=>exact ⟨_,h,fun w=>rfl⟩
 case build t ps=>exact lift (buildVc_ok (parts:=ps.map fun p=>(p.1,e.op p.2)) (by simpa using h)) fun w=>rfl
 case typeAssert x xt at_ ok=>
  unfold taVc at h
  split at h
  ·obtain ⟨v,b,hr,h⟩:=exK_some h
   exact ⟨_,h,fun w=>by simp [execOp,hr]⟩
  ·exact h.elim
 case unOp op t x=>exact lift (unVc_ok h) fun w=>rfl
 case binOp op t x y yt=>exact lift (binVc_ok (xo:=x) h (fun c hc=>by subst hc;rfl)) fun w=>rfl
 case convert s d x=>exact lift (convVc_ok h) fun w=>rfl
 case call c=>
  obtain ⟨callee,args,argTypes⟩:=c
  cases callee with
  | value f=>exact h.elim
  | invoke r m=>exact h.elim
  | builtin b=>
   cases b<;>first | exact h.elim | skip
   case len=>
    simp only at h
    split at h
    ·rename_i x t ha ht
     obtain ⟨v,hq,hv⟩:=lenVc_ok (ty:=type) h
     refine ⟨v,hq,fun w=>?_⟩
     have ha':args=#[x]:=by rw [<-Array.toArray_toList (xs:=args),ha]
     have ht':argTypes=#[t]:=by rw [<-Array.toArray_toList (xs:=argTypes),ht]
     subst ha';subst ht'
     simp [execOp,resolve,invoke,builtin,hv]
    ·exact h.elim
   case min=>
    simp only [minVc] at h
    split at h
    ·rename_i k x k' y ha
     refine ⟨_,h,fun w=>?_⟩
     have ha':args.map e.op=#[.int k x,.int k' y]:=by rw [<-Array.toArray_toList (xs:=args.map e.op),Array.toList_map,ha]
     simp [execOp,resolve,invoke,builtin,ha',run_min_int2]
    ·exact h.elim
 all_goals exact h.elim
structure Fine (P:Program):Prop where
 mixed:P.follows .mixedOrders=true
 names:∀(f:FuncId) (fn:Func),P.funcs[f]?=some fn->(fn.name == "runtime.NumGoroutine")=false
def retK (P:Program) (ty:TypeId) (K:Value->World->Prop):Ending->World->Prop:=fun en w'=>exT P ty fun v=>en=.returned v/\K v w'
def hasBody (P:Program) (f:FuncId):Bool:=match P.funcs[f]? with
 | some fn=>fn.body.isSome
 | none=>false
def Ap (K:Value->World->Prop) (v:Value) (w:World):Prop:=K v w
def fnVc (P:Program) (f:FuncId) (args:Array Value) (ty:TypeId) (K:Value->World->Prop) (w:World):Prop:=
 match hasBody P f with
 | true=>Calls P f args w (retK P ty K)
 | false=>exT P ty fun v=>∃w',(callFunc f args).run P w=.ok (.value v) w'/\Ap K v w'
def ivVc (P:Program) (r:Value) (name:String) (args:Array Value) (ty:TypeId) (K:Value->World->Prop) (w:World):Prop:=
 ∃t v f rc,r=.iface t v/\(method (P.types.size+Made.depth) t v name).run P w=.ok (f,rc) w/\hasBody P f=true/\Calls P f (#[rc]++args) w (retK P ty K)
def ldVc (P:Program) (t:TypeId) (a:Value) (K:Value->World->Prop) (w:World):Prop:=
 match a with
 | .pointer (some ad)=>(match P.underlying t with
  | some (.struct _)=>bif Nat.ble (P.cellsOf t) 8 then exs (cellKs P 3 t) fun vs=>LdV P t ad (.agg vs.toArray) w/\K (.agg vs.toArray) w else ∃v,LdV P t ad v w/\K v w
  | some (.array _ _)=>∃v,LdV P t ad v w/\K v w
  | some k=>ex1 k fun v=>w.cell? ad=some v/\K v w
  | none=>False)
 | _=>False
def bsVc (P:Program) (t:TypeId) (n:Nat) (parts:List (Nat×Value)) (K:Value->World->Prop) (w:World):Prop:=
 match P.underlying t with
 | some (.slice el)=>(match n,parts,hasZero P el,Nat.ble (n*P.cellsOf el) 16777216 with
  | 1,[(0,v)],true,true=>v.cells.size=P.cellsOf el/\gNew v.cells el (fun a w'=>K (.slice (some a) 1 1) w') w
  | _,_,true,true=>(match Instr.fill (fun i=>some (i*P.cellsOf el,P.cellsOf el)) ((Array.range (n*P.cellsOf el)).map ((if n*P.cellsOf el=0 then #[] else zeroC P el)[· % (if n*P.cellsOf el=0 then #[] else zeroC P el).size]!)) parts with
   | some cs=>gNew cs el (fun a w'=>K (.slice (some a) n n) w') w
   | none=>False)
  | _,_,_,_=>False)
 | _=>False
def callVc (P:Program) (c:Call) (ty:TypeId) (e:Env) (K:Value->World->Prop) (w:World):Prop:=
 match c.callee with
 | .builtin .append=>gSem P ty (Builtin.append_ c.argTypes ty (c.args.map e.op)) K w
 | .builtin .copy=>gSem P ty (Builtin.copy_ c.argTypes ty (c.args.map e.op)) K w
 | .value f=>(match e.op f with
  | .func (.func id) first captured=>fnVc P id (first++c.args.map e.op++captured) ty K w
  | _=>False)
 | .invoke r name=>ivVc P (e.op r) name (c.args.map e.op) ty K w
 | _=>False
def goVc (P:Program) (o:Oper) (e:Env) (K:Value->World->Prop) (w:World):Prop:=
 match o.op with
 | .alloc t=>(match hasZero P t with | true=>gNew (zeroC P t) t (fun a w'=>K (.pointer (some a)) w') w | false=>False)
 | .box t x=>gNew (e.op x).cells t (fun a w'=>K (.pointer (some a)) w') w
 | .buildSlice t n ps=>bsVc P t n (ps.toList.map fun p=>(p.1,e.op p.2)) K w
 | .load t a=>ldVc P t (e.op a) K w
 | .store t a x=>(match e.op a with | .pointer (some ad)=>∃w',StV P t ad (e.op x) w w'/\K undef w' | _=>False)
 | .convert s d x=>gSem P d (convert s d (e.op x)) K w
 | .binOp op t x y _=>(match e.op x with
  | .float _ _=>gSem P o.type (binOp op t (e.op x) (e.op y)) K w
  | .agg _=>(eqGuard op t x y (e.op x) (e.op y)).run P w=.ok () w/\gSem P o.type (binOp op t (e.op x) (e.op y)) K w
  | _=>False)
 | .unOp op _ x=>gSem P o.type (Op.unary op (e.op x)) K w
 | .makeSlice t l c=>gSem P t (Instr.makeSlice t (e.op l) (e.op c)) K w
 | .makeMap t r=>gSem P t (Instr.makeMap t (r.map e.op)) K w
 | .insert t m k x=>∃w',(Instr.mapUpdate t (e.op m) (e.op k) (e.op x)).run P w=.ok () w'/\K undef w'
 | .lookup t x i ok=>gSem P o.type (Instr.lookup t (e.op x) (e.op i) ok) K w
 | .call c=>callVc P c o.type e K w
 | _=>False
def opVc (P:Program) (o:Oper) (e:Env) (K:Value->World->Prop) (w:World):Prop:=
 match isPure P o.op with
 | true=>pureVc P o.op e fun v=>K v w
 | false=>goVc P o e K w

/-! ### They are enough -/
theorem run_alloc_ok (h:hasZero P t=true):(Instr.alloc t true (.tuple #[])).run P w=.ok (.pointer (some ⟨w.heap.size,0,none⟩)) (w.alloc (.cells (zeroC P t) t)):=by
 obtain ⟨z,hz⟩:=bZ.1 h
 obtain ⟨i,hi,hz'⟩:=bQ.1 hz
 simp [Instr.alloc,zeroValue,typeInfo,hi,hz',newVar,newRow,zeroC]
theorem run_box_ok:(Instr.box t v).run P w=.ok (.pointer (some ⟨w.heap.size,0,none⟩)) (w.alloc (.cells v.cells t)):=by
 simp [Instr.box,newVar,newRow]
theorem foldl_set (l:List Value):∀(m:Nat) (acc:Array Value),∀k,((l.zipIdx m).foldl (fun cs (p:Value×Nat)=>cs.setIfInBounds p.2 p.1) acc)[k]?=if m<=k/\k < m+l.length/\k < acc.size then l[k - m]? else acc[k]?:=by
 induction l with
 | nil=>intro m acc k;simp;intro h1 h2;omega
 | cons x r ih=>
  intro m acc k
  simp only [List.zipIdx_cons,List.foldl_cons,ih,Array.size_setIfInBounds,aA]
  by_cases h1:m+1<=k/\k < m+1+r.length/\k < acc.size
  ·rw [aG h1,aG (by omega),show k - m=(k - (m+1))+1 by omega,List.getElem?_cons_succ]
  ·rw [ap h1]
   by_cases h2:k=m
   ·subst h2
    by_cases h3:k < acc.size
    ·rw [aG (by omega)];simp [h3]
    ·rw [ap (by omega),bG (by simp;omega),bG (by omega)]
   ·rw [Array.getElem?_setIfInBounds_ne (Ne.symm h2),ap (by omega)]
theorem fill_one {size:Nat} {cells:Array Value} {place:Nat->Option (Nat×Nat)} (hp:place 0=some (0,size)) (hs:v.cells.size=size) (hc:cells.size=size) :
  Instr.fill place cells [(0,v)]=some v.cells:=by
 simp only [Instr.fill,hp]
 rw [ap (by simp;omega)]
 congr 1
 apply Array.ext_getElem?
 intro k
 have:=foldl_set v.cells.toList 0 cells k
 simp only [bE,true_and,aK,Nat.sub_zero,bD,bH] at this
 rw [<-Array.foldl_toList,Array.toList_zipIdx]
 simp only [aK]
 rw [this]
 by_cases h:k < v.cells.size
 ·rw [aG (by omega)]
 ·rw [ap (by omega),bG (by omega),bG (by omega)]
theorem run_buildSlice {el:TypeId} {parts:Array (Nat×Value)} {cs:Array Value} (ht:P.underlying t=some (.slice el)) (hz:hasZero P el=true) (hb:n*P.cellsOf el<=16777216)
  (hf:Instr.fill (fun i=>some (i*P.cellsOf el,P.cellsOf el)) ((Array.range (n*P.cellsOf el)).map ((if n*P.cellsOf el=0 then #[] else zeroC P el)[· % (if n*P.cellsOf el=0 then #[] else zeroC P el).size]!)) parts.toList=some cs) :
  (Instr.buildSlice t n parts).run P w=.ok (.slice (some ⟨w.heap.size,0,none⟩) n n) (w.alloc (.cells cs el)):=by
 obtain ⟨z,hz⟩:=bZ.1 hz
 obtain ⟨i,hi,hz'⟩:=bQ.1 hz
 have hzc:zeroC P el=z.cells:=by simp [zeroC,hi,hz']
 have e:=run_sizeOf P w el (by simp [hi])
 have ez:(zeroValue el).run P w=.ok z w:=by simp [zeroValue,typeInfo,hi,hz']
 have hle:¬n*P.cellsOf el > 2 ^ 24:=by omega
 rw [hzc] at hf
 by_cases h0:n*P.cellsOf el=0
 ·rw [aG h0] at hf
  simp only [Instr.buildSlice,aL,aH ht,aB,e,ap hle]
  rw [aG h0]
  simp only [bv,aL,aB,hf]
  simp [newRow]
 ·rw [ap h0] at hf
  simp only [Instr.buildSlice,aL,aH ht,aB,e,ap hle]
  rw [ap h0]
  simp only [bv,aL,aB,ez,hf]
  simp [newRow]
theorem bsVc_ok {parts:Array (Nat×Value)} {K:Value->World->Prop} (h:bsVc P t n parts.toList K w) :
  ∃v w',(Instr.buildSlice t n parts).run P w=.ok v w'/\K v w':=by
 unfold bsVc at h
 split at h
 ·rename_i el ht
  split at h
  ·rename_i v hparts hz hb
   have hb':1*P.cellsOf el<=16777216:=bV hb
   refine ⟨_,_,run_buildSlice (cs:=v.cells) ht hz hb' ?_,h.2⟩
   rw [hparts]
   exact fill_one (by simp) h.1 (by simp)
  ·rename_i hz hb _
   split at h
   ·rename_i cs hf
    exact ⟨_,_,run_buildSlice ht hz (bV hb) hf,h⟩
   ·exact h.elim
  ·exact h.elim
 ·exact h.elim
theorem run_loadVar_one {k:TypeDesc} {a:Addr} (ht:P.underlying t=some k) (hk:(match k with | .struct _ | .array _ _=>true | _=>false)=false) (hc:w.cell? a=some v) :
  (loadVar t a).run P w=.ok v w:=by
 have e:(isAgg t).run P w=.ok false w:=by
  unfold isAgg
  simp only [aL,aH ht,aB]
  cases k<;>first | rfl | (simp at hk)
 simp only [loadVar,aL,e,aB,be,bO,run_load,hc]
theorem ldVc_ok {a:Value} {K:Value->World->Prop} (h:ldVc P t a K w):∃v,(Instr.loadAt t a).run P w=.ok v w/\K v w:=by
 unfold ldVc at h
 split at h
 ·rename_i ad
  have lift:∀{v},(loadVar t ad).run P w=.ok v w->(Instr.loadAt t (.pointer (some ad))).run P w=.ok v w:=fun hv=>by
   simp [Instr.loadAt,Instr.sureAddr,hv]
  split at h
  ·cases hb:Nat.ble (P.cellsOf t) 8<;>simp only [hb,cond_true,cond_false] at h
   ·obtain ⟨v,h1,h2⟩:=h;exact ⟨v,lift h1,h2⟩
   ·obtain ⟨vs,h1,h2⟩:=exs_some h;exact ⟨_,lift h1,h2⟩
  ·obtain ⟨v,h1,h2⟩:=h;exact ⟨v,lift h1,h2⟩
  ·rename_i k hs1 hs2 hk
   obtain ⟨v,h1,h2⟩:=ex1_some h
   refine ⟨v,lift (run_loadVar_one hk ?_ h1),h2⟩
   cases k<;>first | rfl | (exfalso;first | exact hs1 _ rfl | exact hs2 _ _ rfl)
  ·exact h.elim
 ·exact h.elim
theorem gSem_ok {s:Sem Value} {K:Value->World->Prop} (h:gSem P t s K w):∃v w',s.run P w=.ok v w'/\K v w':=by
 obtain ⟨v,w',h1,h2⟩:=exT_some h
 exact ⟨v,w',h1,h2⟩
theorem calls_ret {args:Array Value} {K:Value->World->Prop} (h:Calls P f args w (retK P ty K)) (hr:∀v w',K v w'->R (.returned v) w') :
  Calls P f args w R:=h.mono fun e w' he=>by
 obtain ⟨v,rfl,hk⟩:=exT_some he
 exact hr v w' hk
theorem run_callFunc_body (hP:Fine P) {args:Array Value} (h:hasBody P f=true):(callFunc f args).run P w=.ok (.enter f args) w:=by
 unfold hasBody at h
 split at h
 ·rename_i fn hf
  have hn:=hP.names f fn hf
  simp only [callFunc,aL,run_program,aB,hf,hn,be,bO]
  have hb:fn.body.isNone=false:=by cases hq:fn.body<;>simp_all
  simp only [hb,be,bO,bv]
 ·cases h
theorem opVc_ok (hP:Fine P) {o:Oper} {e:Env} {a:Act} {K:Value->World->Prop} (ha:Agree n e a) (h:opVc P o e K w) {next:Act->World->Prop} {Q:Exit->Act->World->Prop}
  (hK:∀v w',K v w'->next (a.put o.dst v) w'):o.wp P a w next Q:=by
 have value:∀{v w'},(execOp e.op o).run P w=.ok (.value v) w'->K v w'->o.wp P a w next Q:=fun hr hk=>by
  unfold Oper.wp;rw [ha.evals,hr];exact hK _ _ hk
 have skip:∀{w'},(execOp e.op o).run P w=.ok .skip w'->K undef w'->o.wp P a w next Q:=fun hr hk=>by
  unfold Oper.wp;rw [ha.evals,hr];exact hK _ _ hk
 have enter:∀{f args ty},(execOp e.op o).run P w=.ok (.enter f args) w->Calls P f args w (retK P ty K)->o.wp P a w next Q:=fun hr hk=>by
  unfold Oper.wp;rw [ha.evals,hr]
  exact calls_ret hk fun v w' hv=>hK v w' hv
 unfold opVc at h
 split at h
 ·obtain ⟨v,hk,hv⟩:=pureVc_ok (fun x b hx=>ha.decOp hx) h
  exact value (hv w) hk
 rename_i hp
 obtain ⟨dst,op,type,pos,after,guard⟩:=o
 cases op<;>simp only [goVc] at h
 case alloc t=>
  split at h
  ·rename_i hz;exact value (v:=.pointer (some ⟨w.heap.size,0,none⟩)) (by simp [execOp,run_alloc_ok hz]) h
  ·exact h.elim
 case box t x=>exact value (v:=.pointer (some ⟨w.heap.size,0,none⟩)) (by simp [execOp,run_box_ok]) h
 case buildSlice t m ps=>
  obtain ⟨v,w',hr,hk⟩:=bsVc_ok (parts:=ps.map fun p=>(p.1,e.op p.2)) (by simpa using h)
  exact value (by simp [execOp,hr]) hk
 case load t x=>
  obtain ⟨v,hr,hk⟩:=ldVc_ok h
  exact value (by simp [execOp,hr]) hk
 case store t x y=>
  split at h
  ·rename_i ad hx
   obtain ⟨w',hs,hk⟩:=h
   exact skip (w':=w') (by unfold StV at hs;simp [execOp,Instr.storeAt,hx,Instr.sureAddr,hs]) hk
  ·exact h.elim
 case convert s d x=>
  obtain ⟨v,w',hr,hk⟩:=gSem_ok h
  exact value (by simp [execOp,hr]) hk
 case binOp op t x y yt=>
  split at h
  ·rename_i k b hx
   obtain ⟨v,w',hr,hk⟩:=gSem_ok h
   have hg:=run_eqGuard P w op t x y (e.op x) (e.op y) (by rw [hx];rintro _ _ ⟨h,_⟩;cases h) (by rw [hx];intro h;cases h)
   exact value (by simp [execOp,hg,hr]) hk
  ·obtain ⟨hg,h⟩:=h
   obtain ⟨v,w',hr,hk⟩:=gSem_ok h
   exact value (by simp [execOp,hg,hr]) hk
  ·exact h.elim
 case unOp op t x=>
  obtain ⟨v,w',hr,hk⟩:=gSem_ok h
  exact value (by simp [execOp,hr]) hk
 case makeSlice t l c=>
  obtain ⟨v,w',hr,hk⟩:=gSem_ok h
  exact value (by simp [execOp,hr]) hk
 case makeMap t r=>
  obtain ⟨v,w',hr,hk⟩:=gSem_ok h
  exact value (by simp [execOp,hr]) hk
 case insert t m k x=>
  obtain ⟨w',hr,hk⟩:=h
  exact skip (by simp [execOp,hr]) hk
 case lookup t x i ok=>
  obtain ⟨v,w',hr,hk⟩:=gSem_ok h
  exact value (by simp [execOp,hr]) hk
 case call c=>
  obtain ⟨callee,args,argTypes⟩:=c
  cases callee with
  | value f=>
   simp only [callVc] at h
   split at h
   ·rename_i id first captured hf
    unfold fnVc at h
    have hr:(execOp e.op ⟨dst,.call ⟨.value f,args,argTypes⟩,type,pos,after,guard⟩).run P w=(callFunc id (first++args.map e.op++captured)).run P w:=by
     simp [execOp,resolve,hf,Deferred.ofValue,invoke]
    split at h
    ·rename_i hb
     exact enter (hr.trans (run_callFunc_body hP hb)) h
    ·obtain ⟨v,w',h1,h2⟩:=exT_some h
     exact value (hr.trans h1) h2
   ·exact h.elim
  | invoke r m=>
   simp only [callVc] at h
   obtain ⟨t,v,f,rc,hv,hm,hb,hc⟩:=h
   refine enter (f:=f) (args:=#[rc]++args.map e.op) (ty:=type) ?_ hc
   have hcf:=run_callFunc_body hP (args:=#[rc]++args.map e.op) (w:=w) hb
   have h1:(#[Value.iface t v]++Array.map e.op args).extract 1 (#[Value.iface t v]++Array.map e.op args).size=Array.map e.op args:=by
    apply Array.ext_getElem?
    intro i
    rw [Array.getElem?_extract]
    split
    ·rw [Array.getElem?_append,ap (by simp)];simp
    ·rename_i hi
     rw [bG (by simp at hi ⊢;omega)]
   have h0:(#[Value.iface t v]++Array.map e.op args)[0]?=some (.iface t v):=by
    rw [Array.getElem?_append,aG (by simp)];rfl
   have hcm:(callMethod (.iface t v) m (args.map e.op)).run P w=.ok (.enter f (#[rc]++args.map e.op)) w:=by
    simp only [callMethod,aL,run_program,aB,hm]
    exact hcf
   simp only [execOp,resolve,hv,aL,bv,aB]
   simp only [invoke,h0,h1]
   exact hcm
  | builtin b=>
   cases b<;>simp only [callVc] at h<;>first | exact h.elim | skip
   case append=>
    obtain ⟨v,w',hr,hk⟩:=gSem_ok h
    exact value (by simp [execOp,resolve,invoke,builtin,hr]) hk
   case copy=>
    obtain ⟨v,w',hr,hk⟩:=gSem_ok h
    exact value (by simp [execOp,resolve,invoke,builtin,hr]) hk
 all_goals exact h.elim
structure Ag (n:Nat) (M:Nat->Bool) (base:Nat->Value) (e:Env) (a:Act):Prop where
 ag:Agree n e a
 lt:∀d,M d=true->d < n
 only:∀j,M j=false->e.val j=base j
def putVc (M:Nat->Bool) (o:Oper) (v:Value) (k:Option Bool) (e:Env) (K:Env->Prop):Prop:=
 match o.dst with
 | none=>K e
 | some d=>(match M d with
  | true=>K ((d,v,k)::e)
  | false=>False)
theorem putVc_ok {M:Nat->Bool} {base:Nat->Value} {o:Oper} {k:Option Bool} {e:Env} {K:Env->Prop} {a:Act} (h:putVc M o v k e K) (ha:Ag n M base e a) (hk:∀b,k=some b->v=.bool b) :
  ∃e',Ag n M base e' (a.put o.dst v)/\K e':=by
 unfold putVc at h
 split at h
 ·rename_i hd;rw [hd];exact ⟨e,ha,h⟩
 ·rename_i d hd
  split at h
  ·rename_i hM
   rw [hd]
   refine ⟨_,⟨ha.ag.put d (ha.lt d hM) v k hk,ha.lt,fun j hj=>?_⟩,h⟩
   rw [Env.val_cons,ap (by rintro rfl;rw [hM] at hj;cases hj)]
   exact ha.only j hj
  ·exact h.elim
def guardVc (all:List Oper) (o:Oper) (e:Env) (yes no:Env->Prop):Prop:=
 match o.guard with
 | none=>yes e
 | some (j,want)=>(match (all[j]?).bind (·.dst) with
  | none=>False
  | some d=>(match e.dec d with
   | some b=>(match b == want with | true=>yes e | false=>no e)
   | none=>(match e.val d with
    | .bool b=>(b=true->(match want with | true=>yes | false=>no) ((d,.bool true,some true)::e))/\(b=false->(match want with | true=>no | false=>yes) ((d,.bool false,some false)::e))
    | .tuple _=>no e
    | _=>False)))
theorem Ag.same {M:Nat->Bool} {base:Nat->Value} {e:Env} {a:Act} (h:Ag n M base e a) {d:Nat} {b:Bool} (hv:e.val d=.bool b):Ag n M base ((d,.bool b,some b)::e) a where
 ag:=h.ag.same d b hv
 lt:=h.lt
 only j hj:=by
  rw [Env.val_cons]
  by_cases hd:d=j
  ·subst hd;rw [aG rfl,<-hv];exact h.only d hj
  ·rw [ap hd];exact h.only j hj
theorem yielded_eq {e:Env} {a:Act} (ha:Agree n e a) {ops:Array Oper} {d:Nat} (hd:(ops.toList[j]?).bind (·.dst)=some d) (hlt:∀b,e.val d=.bool b->d < n) :
  yielded ops a.tmps j=match e.val d with | .bool b=>some b | _=>none:=by
 unfold yielded
 rw [bH] at hd
 rw [hd]
 simp only [Option.bind_some]
 have hg:=ha.get d
 by_cases h:d < a.tmps.size
 ·rw [bK,cn h,Option.getD_some] at hg
  rw [cn h,hg]
  cases e.val d<;>rfl
 ·rw [bG (by omega)]
  cases hv:e.val d<;>simp
  have:=hlt _ hv
  rw [ha.size] at h
  exact h this
theorem guardVc_ok {M:Nat->Bool} {base:Nat->Value} {ops:Array Oper} {o:Oper} {e:Env} {yes no:Env->Prop} {a:Act} (h:guardVc ops.toList o e yes no) (ha:Ag n M base e a) :
  ∃e',Ag n M base e' a/\((Region.wanted o (yielded ops a.tmps)=true/\yes e')\/(Region.wanted o (yielded ops a.tmps)=false/\no e')):=by
 have inR:∀d b,e.val d=.bool b->d < n:=fun d b hv=>by
  have hg:=ha.ag.get d
  by_cases h:d < a.tmps.size
  ·rw [<-ha.ag.size];exact h
  ·rw [bK,bG (by omega),Option.getD_none,hv] at hg
   cases hg
 unfold guardVc at h
 split at h
 ·rename_i hg;exact ⟨e,ha,.inl ⟨by simp [Region.wanted,hg],h⟩⟩
 ·rename_i j want hg
  split at h
  ·exact h.elim
  ·rename_i d hd
   have hy:=yielded_eq ha.ag hd (inR d)
   split at h
   ·rename_i b hb
    have hv:=ha.ag.dec d b hb
    rw [hv] at hy
    split at h
    ·rename_i he;exact ⟨e,ha,.inl ⟨by simp [Region.wanted,hg,hy];simpa using he,h⟩⟩
    ·rename_i he;exact ⟨e,ha,.inr ⟨by simp [Region.wanted,hg,hy];simpa using he,h⟩⟩
   ·split at h
    ·rename_i b hv
     rw [hv] at hy
     cases b
     ·have h2:=h.2 rfl
      refine ⟨_,ha.same hv,?_⟩
      cases want
      ·exact .inl ⟨by simp [Region.wanted,hg,hy],h2⟩
      ·exact .inr ⟨by simp [Region.wanted,hg,hy],h2⟩
     ·have h1:=h.1 rfl
      refine ⟨_,ha.same hv,?_⟩
      cases want
      ·exact .inr ⟨by simp [Region.wanted,hg,hy],h1⟩
      ·exact .inl ⟨by simp [Region.wanted,hg,hy],h1⟩
    ·rename_i hv
     rw [hv] at hy
     exact ⟨e,ha,.inr ⟨by simp [Region.wanted,hg,hy],h⟩⟩
    ·exact h.elim
def stepVc (P:Program) (M:Nat->Bool) (o:Oper) (e:Env) (K:Env->World->Prop) (w:World):Prop:=
 match o.op with
 | .move x=>putVc M o (e.op x) (e.decOp x) e fun e'=>K e' w
 | .assign x=>putVc M o (e.op x) (e.decOp x) e fun e'=>K e' w
 | .pick c a b=>(match e.decOp c with
  | some true=>putVc M o (e.op a) (e.decOp a) e fun e'=>K e' w
  | some false=>putVc M o (e.op b) (e.decOp b) e fun e'=>K e' w
  | none=>pickVc (e.op c) (e.op a) (e.op b) fun v=>putVc M o v none e fun e'=>K e' w)
 | _=>opVc P o e (fun v w'=>putVc M o v none e fun e'=>K e' w') w
theorem stepVc_ok (hP:Fine P) {M:Nat->Bool} {base:Nat->Value} {o:Oper} {e:Env} {K:Env->World->Prop} {a:Act} (h:stepVc P M o e K w) (ha:Ag n M base e a)
  {next:Act->World->Prop} {Q:Exit->Act->World->Prop} (hK:∀e' a' w',Ag n M base e' a'->K e' w'->next a' w'):o.wp P a w next Q:=by
 have plain:∀{v k},(execOp e.op o).run P w=.ok (.value v) w->(∀b,k=some b->v=.bool b)->putVc M o v k e (fun e'=>K e' w)->o.wp P a w next Q:=fun hr hk hp=>by
  obtain ⟨e',ha',hk'⟩:=putVc_ok hp ha hk
  unfold Oper.wp
  rw [ha.ag.evals,hr]
  exact hK _ _ _ ha' hk'
 have gen:opVc P o e (fun v w'=>putVc M o v none e fun e'=>K e' w') w->o.wp P a w next Q:=fun h=>
  opVc_ok hP ha.ag h fun v w' hv=>by
   obtain ⟨e',ha',hk'⟩:=putVc_ok hv ha (by simp)
   exact hK _ _ _ ha' hk'
 obtain ⟨dst,op,type,pos,after,guard⟩:=o
 cases op<;>simp only [stepVc] at h
 case move x=>exact plain rfl (fun b hb=>ha.ag.decOp hb) h
 case assign x=>exact plain rfl (fun b hb=>ha.ag.decOp hb) h
 case pick c x y=>
  split at h
  ·rename_i hc;exact plain (by simp [execOp,ha.ag.decOp hc,asBool]) (fun b hb=>ha.ag.decOp hb) h
  ·rename_i hc;exact plain (by simp [execOp,ha.ag.decOp hc,asBool]) (fun b hb=>ha.ag.decOp hb) h
  ·obtain ⟨p,q,r,h1,h2,h3,hq⟩:=pickVc_ok h
   exact plain (by cases p<;>simp [execOp,h1,h2,h3,asBool]) (by simp) hq
 all_goals exact gen h
def opsVc (P:Program) (M:Nat->Bool) (all:List Oper):List Oper->Env->(Env->World->Prop)->World->Prop
 | [],e,K,w=>K e w
 | o::rest,e,K,w=>guardVc all o e (fun e=>stepVc P M o e (fun e' w'=>opsVc P M all rest e' K w') w) (fun e=>putVc M o undef none e fun e'=>opsVc P M all rest e' K w)
theorem opsVc_ok (hP:Fine P) {M:Nat->Bool} {base:Nat->Value} {ops:Array Oper} {Q:Exit->Act->World->Prop} {K:Env->World->Prop}
  (hQ:∀e a w,Ag n M base e a->K e w->Q .normal a w):∀(l:List Oper) (e:Env) (a:Act) (w:World),opsVc P M ops.toList l e K w->Ag n M base e a->wpList P ops Q l a w
 | [],e,a,w,h,ha=>hQ e a w ha h
 | o::rest,e,a,w,h,ha=>by
  obtain ⟨e1,ha1,hc⟩:=guardVc_ok h ha
  unfold wpList
  rcases hc with ⟨hw,hy⟩ | ⟨hw,hn⟩
  ·rw [aG hw]
   exact .inl (stepVc_ok hP hy ha1 fun e' a' w' ha' hk=>opsVc_ok hP hQ rest e' a' w' hk ha')
  ·rw [ap (by rw [hw];exact Bool.false_ne_true)]
   obtain ⟨e2,ha2,hk⟩:=putVc_ok hn ha1 (by simp)
   exact opsVc_ok hP hQ rest e2 _ w hk ha2

/-! ### A region whose order is open -/
section
variable {P:Program} {ops:Array Oper} {Q:Exit->Act->World->Prop} {S:World->Prop} {T:Nat->Bool}
def wpAnyT (P:Program) (ops:Array Oper) (Q:Exit->Act->World->Prop) (S:World->Prop) (T:Nat->Bool):Nat->Array Bool->Act->World->Prop
 | 0,listed,a,w=>Region.ready .any ops listed=[]/\Q .normal a w
 | fuel+1,listed,a,w=>(Region.ready .any ops listed=[]->Q .normal a w) /\
  ∀i∈Region.ready .any ops listed,wpOp P ops Q i (fun a' w'=>(T i=false->S w')/\wpAnyT P ops Q S T fuel (listed.setIfInBounds i true) a' w') a w
theorem wpAny_of_T:∀(fuel:Nat) (listed:Array Bool) (a:Act) (w:World),wpAnyT P ops Q S T fuel listed a w->wpAny P .any ops Q fuel listed a w
 | 0,_,_,_,h=>h
 | fuel+1,_,_,_,h=>⟨h.1,fun i hi=>wpOp_mono (fun a' w' h'=>wpAny_of_T fuel _ a' w' h'.2) (h.2 i hi)⟩
theorem wpAnyT_first {oi:Oper} {A:Nat->Bool} (hi:ops[i]?=some oi) (hsel:∀(j:Nat) (o:Oper) cs b,ops[j]?=some o->o.op≠.select cs b)
  (hQ:∀c a w,Q (.panic c) (a.put oi.dst v) w->Q (.panic c) a w) :
  ∀(fuel:Nat) (listed:Array Bool) (a:Act) (w:World),
   (∀(j:Nat) (oj:Oper),ops[j]?=some oj->A j=true->listed.getD j true=false->∃ed∈oj.after,Region.binds .any ed=true/\(ed.on=i\/(A ed.on=true/\listed.getD ed.on false=false))) ->
   (∀(j:Nat) (oj:Oper),ops[j]?=some oj->j≠i->listed.getD j true=false->A j=false->oi.apart ops oj=true/\(T i=false->T j=false)) ->
   i∈Region.ready .any ops listed->YieldsIf P ops (fun w=>T i=false->S w) oi v a->(T i=false->S w) ->
   wpAnyT P ops Q S T fuel (listed.setIfInBounds i true) (a.put oi.dst v) w->wpAnyT P ops Q S T (fuel+1) listed a w:=by
 intro fuel
 induction fuel with
 | zero=>
  intro listed a w _ _ hr hy hS H
  refine ⟨fun h=>(by rw [h] at hr;cases hr),fun j hj=>?_⟩
  by_cases hji:j=i
  ·subst hji;exact hy.wpOp hi hS ⟨hS,H⟩
  ·have:=ready_mono hj hji
   rw [H.1] at this
   cases this
 | succ fuel ih=>
  intro listed a w hA hfree hr hy hS H
  refine ⟨fun h=>(by rw [h] at hr;cases hr),fun j hj=>?_⟩
  by_cases hji:j=i
  ·subst hji;exact hy.wpOp hi hS ⟨hS,H⟩
  ·have h1:=H.2 j (ready_mono hj hji)
   obtain ⟨hjun,oj,hoj,hall⟩:=mem_ready.1 hj
   have hnot:∀ed∈oj.after,Region.binds .any ed=true->ed.on≠i:=fun ed he hb heq=>by
    have h1:=hall ed he hb
    have h0:=(mem_ready.1 hr).1
    rw [heq] at h1
    rcases Nat.lt_or_ge i listed.size with h' | h'
    ·simp [h'] at h0 h1;rw [h0] at h1;cases h1
    ·simp [bG h'] at h1
   have hAj:A j=false:=by
    cases hj2:A j with
    | false=>rfl
    | true=>
     obtain ⟨ed,he,hb,h4⟩:=hA j oj hoj hj2 hjun
     rcases h4 with h4 | ⟨_,h5⟩
     ·exact absurd h4 (hnot ed he hb)
     ·have h6:=hall ed he hb
      rw [h5] at h6
      cases h6
   have hfj:=hfree j oj hoj hji hjun hAj
   have h2:=wpOp_putIf hoj hfj.1 (fun cs b=>hsel i oi cs b hi) (fun cs b=>hsel j oj cs b hoj) hQ hy h1
   refine wpOp_mono (fun a' w' h3=>⟨h3.2.1,?_⟩) h2
   refine ih (listed.setIfInBounds j true) a' w' (fun k ok hk hAk hun=>?_) (fun k ok hk hki hun hno=>hfree k ok hk hki ?_ hno) (ready_mono hr (Ne.symm hji)) h3.1 (fun hT=>h3.2.1 (hfj.2 hT)) ?_
   ·have hjk:j≠k:=fun e=>by rw [<-e,hAj] at hAk;cases hAk
    rw [getD_set_ne true hjk] at hun
    obtain ⟨ed,he,hb,h4⟩:=hA k ok hk hAk hun
    refine ⟨ed,he,hb,h4.imp id fun h5=>⟨h5.1,?_⟩⟩
    rw [getD_set_ne false (fun e=>by rw [<-e,hAj] at h5;cases h5.1)]
    exact h5.2
   ·by_cases hjk:j=k
    ·subst hjk;exact hjun
    ·rw [getD_set_ne true hjk] at hun;exact hun
   ·rw [Array.setIfInBounds_comm _ _ hji]
    exact h3.2.2
end
inductive Plan where
 | done
 | one (i:Nat) (take:Bool) (rest:Plan)
 | two (i j:Nat) (a b:Plan)
def emask (o:Oper):Nat:=o.after.toList.foldl (fun m ed=>bif Region.binds .any ed then m ||| 2 ^ ed.on else m) 0
def within (m d:Nat):Bool:=Nat.beq (m &&& d) m
def reach (i done:Nat):List Nat->Nat->Nat->Nat
 | [],_,acc=>acc
 | m::ms,j,acc=>reach i done ms (j+1) (bif !done.testBit j && (m.testBit i || !Nat.beq (m &&& acc) 0) then acc ||| 2 ^ j else acc)
def othersOk (tail:Bool) (oi:Oper) (i:Nat) (arr:Array Oper) (tl:Nat) (done:Nat) (A:Nat):List Oper->Nat->Bool
 | [],_=>true
 | oj::r,j=>(done.testBit j || Nat.beq j i || A.testBit j || (oi.apart arr oj && (tail || !tl.testBit j))) && othersOk tail oi i arr tl done A r (j+1)
def noneReady (i k:Nat) (done:Nat):List Nat->Nat->Bool
 | [],_=>true
 | m::ms,j=>(done.testBit j || Nat.beq j i || Nat.beq j k || !within m done) && noneReady i k done ms (j+1)
def planOk (arr:Array Oper) (all:List Oper) (ms:List Nat) (tl:Nat):Plan->Nat->Bool->Bool
 | .done,done,_=>Nat.beq (done+1) (2 ^ all.length)
 | .one i take rest,done,past=>(match all[i]?,ms[i]? with
  | some oi,some m=>!done.testBit i && within m done && (!past || tl.testBit i) && (bif take then othersOk (tl.testBit i) oi i arr tl done (reach i done ms 0 0) all 0 else noneReady i i done ms 0) && planOk arr all ms tl rest (done ||| 2 ^ i) (tl.testBit i)
  | _,_=>false)
 | .two i j a b,done,past=>(match ms[i]?,ms[j]? with
  | some m,some n=>!done.testBit i && !done.testBit j && within m done && within n done && (!past || (tl.testBit i && tl.testBit j)) && noneReady i j done ms 0 &&
    planOk arr all ms tl a (done ||| 2 ^ i) (tl.testBit i) && planOk arr all ms tl b (done ||| 2 ^ j) (tl.testBit j)
  | _,_=>false)
def planDepth:Plan->Nat->Bool
 | .done,n=>Nat.beq n 0
 | .one _ _ r,n+1=>planDepth r n
 | .two _ _ a b,n+1=>planDepth a n && planDepth b n
 | _,0=>false
def planRow (tl:Nat):Plan->Bool
 | .done=>false
 | .one i take r=>(!take && !tl.testBit i) || planRow tl r
 | .two i j a b=>!tl.testBit i || !tl.testBit j || planRow tl a || planRow tl b
def ldTVc (P:Program) (t:TypeId) (a:Value) (row:Option (Option Nat)) (w0:World) (Q:Value->Prop):Prop:=
 match row with
 | none=>ldVc P t a (fun v _=>Q v) w0
 | some r=>(match a with
  | .pointer (some ad)=>some ad.block≠r/\(∃c ty f,w0.heap[ad.block]?=some (.cells c ty f))/\ldVc P t (.pointer (some ad)) (fun v _=>Q v) w0
  | _=>False)
def cvTVc (P:Program) (s d:TypeId) (x:Value) (row:Option (Option Nat)) (w0:World) (Q:Value->Prop):Prop:=
 match row with
 | none=>exT P d fun v=>(convert s d x).run P w0=.ok v w0/\Q v
 | some r=>exT P d fun v=>(∀w,w0.grownBy w r->(convert s d x).run P w=.ok v w)/\Q v
def takeVc (P:Program) (o:Oper) (tail:Bool) (e:Env) (row:Option (Option Nat)) (w0:World) (Q:Value->Prop):Prop:=
 match isPure P o.op with
 | true=>pureVc P o.op e Q
 | false=>(match o.op,tail with
  | .load t x,false=>ldTVc P t (e.op x) row w0 Q
  | .convert s d x,false=>cvTVc P s d (e.op x) row w0 Q
  | _,_=>False)
def takeStep (P:Program) (M:Nat->Bool) (o:Oper) (tail:Bool) (e:Env) (row:Option (Option Nat)) (w0:World) (K:Env->Prop):Prop:=
 match o.op with
 | .move x=>putVc M o (e.op x) (e.decOp x) e K
 | .assign x=>putVc M o (e.op x) (e.decOp x) e K
 | .pick c a b=>(match e.decOp c with
  | some true=>putVc M o (e.op a) (e.decOp a) e K
  | some false=>putVc M o (e.op b) (e.decOp b) e K
  | none=>pickVc (e.op c) (e.op a) (e.op b) fun v=>putVc M o v none e K)
 | _=>takeVc P o tail e row w0 fun v=>putVc M o v none e K
def keptVc (tail:Bool) (row:Option (Option Nat)) (w0 w':World) (p:Prop):Prop:=
 match tail with
 | true=>p
 | false=>(match row with
  | none=>False
  | some r=>w0.grownBy w' r/\p)
def oneVc (P:Program) (M:Nat->Bool) (all:List Oper) (tl:Nat) (row:Option (Option Nat)) (w0:World) (i:Nat) (take:Bool) (e:Env) (w:World) (K:Env->World->Prop):Prop:=
 match all[i]? with
  | none=>False
  | some o=>guardVc all o e
    (fun e=>match take with
     | true=>takeStep P M o (tl.testBit i) e row w0 fun e'=>K e' w
     | false=>stepVc P M o e (fun e' w'=>keptVc (tl.testBit i) row w0 w' (K e' w')) w)
    (fun e=>putVc M o undef none e fun e'=>K e' w)
def planVc (P:Program) (M:Nat->Bool) (all:List Oper) (tl:Nat) (row:Option (Option Nat)) (w0:World):Plan->Env->(Env->World->Prop)->World->Prop
 | .done,e,K,w=>K e w
 | .one i take rest,e,K,w=>oneVc P M all tl row w0 i take e w fun e' w'=>planVc P M all tl row w0 rest e' K w'
 | .two i j a b,e,K,w=>(oneVc P M all tl row w0 i false e w fun e' w'=>planVc P M all tl row w0 a e' K w')/\(oneVc P M all tl row w0 j false e w fun e' w'=>planVc P M all tl row w0 b e' K w')
def drawVc (P:Program) (M:Nat->Bool) (ops:Array Oper) (ms:List Nat) (tl:Nat) (p:Plan) (e:Env) (K:Env->World->Prop) (w:World):Prop:=
 match (planDepth p ops.toList.length && (ops.toList.map emask == ms) && planOk ops ops.toList ms tl p 0 false && Region.noSelect ops),planRow tl p with
 | true,false=>planVc P M ops.toList tl none w.drew p e K w.drew
 | true,true=>∃r:Option Nat,planVc P M ops.toList tl (some r) w.drew p e K w.drew
 | false,_=>False

/-! ### It is enough -/
structure Lst (ops:Array Oper) (done:Nat) (listed:Array Bool):Prop where
 size:listed.size=ops.size
 lt:done < 2 ^ ops.size
 iff:∀j,j < ops.size->listed.getD j true=done.testBit j
theorem Lst.getD_false {ops:Array Oper} {done:Nat} {listed:Array Bool} (h:Lst ops done listed) (j:Nat):listed.getD j false=(decide (j < ops.size) && done.testBit j):=by
 by_cases hj:j < ops.size
 ·have:=h.iff j hj
  rw [bK,cn (by rw [h.size];exact hj),Option.getD_some] at this
  rw [bK,cn (by rw [h.size];exact hj),Option.getD_some,this]
  simp [hj]
 ·rw [bK,bG (by rw [h.size];omega)]
  simp [hj]
theorem testBit_lor_pow (d i j:Nat):(d ||| 2 ^ i).testBit j=(d.testBit j || decide (i=j)):=by
 rw [Nat.testBit_or,Nat.testBit_two_pow]
theorem Lst.step {ops:Array Oper} {done:Nat} {listed:Array Bool} (h:Lst ops done listed) (i:Nat) (hi:i < ops.size):Lst ops (done ||| 2 ^ i) (listed.setIfInBounds i true) where
 size:=by simp [h.size]
 lt:=Nat.or_lt_two_pow h.lt (Nat.pow_lt_pow_right (by omega) hi)
 iff j hj:=by
  rw [testBit_lor_pow]
  by_cases hij:i=j
  ·subst hij
   simp [Array.getElem?_setIfInBounds_self,h.size,hj]
  ·rw [getD_set_ne true hij,h.iff j hj];simp [hij]
theorem emask_spec {o:Oper}:(emask o).testBit k=true↔∃ed∈o.after,Region.binds .any ed=true/\ed.on=k:=by
 have gen:∀(l:List Edge) (m:Nat),(l.foldl (fun m ed=>bif Region.binds .any ed then m ||| 2 ^ ed.on else m) m).testBit k=true↔m.testBit k=true\/∃ed∈l,Region.binds .any ed=true/\ed.on=k:=by
  intro l
  induction l with
  | nil=>intro m;simp
  | cons x r ih=>
   intro m
   rw [List.foldl_cons,ih]
   cases hb:Region.binds .any x
   ·simp [hb]
   ·simp only [cond_true,testBit_lor_pow,cg,ah,aI,exists_eq_or_imp,hb,true_and]
    exact or_assoc
 unfold emask
 rw [gen]
 simp
theorem within_spec {d:Nat} (h:within m d=true) (hk:m.testBit k=true):d.testBit k=true:=by
 have h1:m &&& d=m:=aT h
 have h2:=congrArg (fun x=>Nat.testBit x k) h1
 simp only [Nat.testBit_and,hk,Bool.true_and] at h2
 exact h2
theorem othersOk_spec {tail:Bool} {oi:Oper} {arr:Array Oper} {tl:Nat} {done A:Nat}:∀(l:List Oper) (j0:Nat),othersOk tail oi i arr tl done A l j0=true ->
  ∀(k:Nat) (oj:Oper),l[k]?=some oj->done.testBit (j0+k)=false->j0+k≠i->A.testBit (j0+k)=false->oi.apart arr oj=true/\(tail=false->tl.testBit (j0+k)=false)
 | [],_,_,_,_,hk,_,_,_=>by simp at hk
 | o::r,j0,h,k,oj,hk,h1,h2,h3=>by
  simp only [othersOk,aM] at h
  cases k with
  | zero=>
   simp only [List.getElem?_cons_zero,aZ] at hk
   subst hk
   have h4:=h.1
   simp only [Nat.add_zero] at h1 h2 h3 ⊢
   have h5:Nat.beq j0 i=false:=by rw [<-bY];exact fun hb=>h2 (aT hb)
   simp only [h1,h5,h3,Bool.false_or,aM,cg,Bool.not_eq_true'] at h4
   exact ⟨h4.1,fun ht=>h4.2.resolve_left (by simp [ht])⟩
  | succ k=>
   have:=othersOk_spec r (j0+1) h.2 k oj (by simpa using hk) (by rw [show j0+1+k=j0+(k+1) by omega];exact h1) (by omega) (by rw [show j0+1+k=j0+(k+1) by omega];exact h3)
   rwa [show j0+1+k=j0+(k+1) by omega] at this
def reachGood (i done:Nat) (MS:List Nat) (B:Nat):Prop:=∀k,B.testBit k=true->done.testBit k=false/\∃m,MS[k]?=some m/\(m.testBit i=true\/∃q,m.testBit q=true/\B.testBit q=true)
theorem reach_ok {done:Nat} {MS:List Nat}:∀(ms:List Nat) (j acc:Nat),(∀n,ms[n]?=MS[j+n]?)->reachGood i done MS acc->reachGood i done MS (reach i done ms j acc)
 | [],_,_,_,h=>h
 | m::ms,j,acc,hm,h=>by
  unfold reach
  refine reach_ok ms (j+1) _ (fun n=>?_) ?_
  ·have:=hm (n+1)
   rw [show j+1+n=j+(n+1) by omega]
   simpa using this
  ·cases hc:(!done.testBit j && (m.testBit i || !Nat.beq (m &&& acc) 0))
   ·exact h
   ·rw [aM,cg] at hc
    intro k hk
    rw [cond_true,testBit_lor_pow,cg] at hk
    rcases hk with hk | hk
    ·obtain ⟨h1,m',h2,h3⟩:=h k hk
     refine ⟨h1,m',h2,h3.imp id ?_⟩
     rintro ⟨q,hq,hq2⟩
     exact ⟨q,hq,by rw [cond_true,testBit_lor_pow,hq2];rfl⟩
    ·obtain rfl:j=k:=by simpa using hk
     refine ⟨by simpa using hc.1,m,by have:=hm 0;simpa using this.symm,?_⟩
     rcases hc.2 with h1 | h1
     ·exact .inl h1
     ·have hne:m &&& acc≠0:=fun e=>by rw [e] at h1;exact absurd h1 (by decide)
      obtain ⟨q,hq⟩:=Nat.exists_testBit_of_ne_zero hne
      rw [Nat.testBit_and,aM] at hq
      exact .inr ⟨q,hq.1,by rw [cond_true,testBit_lor_pow,hq.2];rfl⟩
theorem noneReady_spec {q:Nat} {done:Nat}:∀(l:List Oper) (j0:Nat),noneReady i q done (l.map emask) j0=true ->
  ∀(k:Nat) (oj:Oper),l[k]?=some oj->done.testBit (j0+k)=false->j0+k≠i->j0+k≠q->within (emask oj) done=false
 | [],_,_,_,_,hk,_,_,_=>by simp at hk
 | o::r,j0,h,k,oj,hk,h1,h2,h3=>by
  simp only [aX,noneReady,aM] at h
  cases k with
  | zero=>
   simp only [List.getElem?_cons_zero,aZ] at hk
   subst hk
   have h4:=h.1
   simp only [Nat.add_zero] at h1 h2 h3
   have h5:Nat.beq j0 i=false:=by rw [<-bY];exact fun hb=>h2 (aT hb)
   have h6:Nat.beq j0 q=false:=by rw [<-bY];exact fun hb=>h3 (aT hb)
   simpa only [h1,h5,h6,Bool.false_or,Bool.not_eq_true'] using h4
  | succ k=>exact noneReady_spec r (j0+1) h.2 k oj (by simpa using hk) (by rw [show j0+1+k=j0+(k+1) by omega];exact h1) (by omega) (by omega)
theorem load_same {a:Addr} {c:Array Value} {f:Nat×Nat} (hb:w.heap[a.block]?=some (.cells c ty f)) (hs:w'.heap[a.block]?=w.heap[a.block]?)
  (h:(load a).run P w=.ok v w):(load a).run P w'=.ok v w':=by
 rw [run_load] at h ⊢
 rw [World.cell?_of_block (w:=w) (w':=w') hs]
 cases hc:w.cell? a with
 | some u=>rw [hc] at h;simp only [Result.ok.injEq,and_true] at h ⊢;exact h
 | none=>
  rw [hc] at h
  simp only [World.farLoad,hb] at h
  cases h
theorem loadCellsFrom_same {a:Addr} {c:Array Value} {f:Nat×Nat} (hb:w.heap[a.block]?=some (.cells c ty f)) (hs:w'.heap[a.block]?=w.heap[a.block]?) :
  ∀(n i:Nat) (acc r:Array Value),(loadCellsFrom a i n acc).run P w=.ok r w->(loadCellsFrom a i n acc).run P w'=.ok r w'
 | 0,i,acc,r,h=>by
  simp only [loadCellsFrom,bv,Result.ok.injEq,and_true] at h ⊢
  exact h
 | n+1,i,acc,r,h=>by
  have hblk:(a.add i).block=a.block:=by unfold Addr.add;split<;>rfl
  simp only [loadCellsFrom,aL] at h ⊢
  have hc:=run_load P w (a.add i) .plain
  cases hv:w.cell? (a.add i) with
  | some u=>
   rw [hv] at hc
   have hc':=load_same (P:=P) (w':=w') (by rw [hblk];exact hb) (by rw [hblk];exact hs) hc
   rw [hc] at h
   rw [hc']
   exact loadCellsFrom_same hb hs n (i+1) (acc.push u) r h
  | none=>
   rw [hv] at hc
   simp only [World.farLoad,hblk,hb] at hc
   rw [hc] at h
   cases h
theorem loadVar_same {a:Addr} {c:Array Value} {f:Nat×Nat} (hb:w.heap[a.block]?=some (.cells c ty f)) (hs:w'.heap[a.block]?=w.heap[a.block]?)
  (h:(loadVar t a).run P w=.ok v w):(loadVar t a).run P w'=.ok v w':=by
 cases ht:P.underlying t with
 | none=>simp [loadVar,isAgg,underlying,ht] at h
 | some k=>
  cases hi:P.info? t with
  | none=>simp [Program.underlying,hi] at ht
  | some i=>
   have ha:∃b,∀w,(isAgg t).run P w=.ok b w:=by
    cases k<;>exact ⟨_,fun w=>by simp only [isAgg,aL,aH ht,aB];rfl⟩
   obtain ⟨b,ha⟩:=ha
   have hz:∀w,(sizeOf t).run P w=.ok i.size w:=fun w=>by simp [sizeOf,typeInfo,hi]
   cases b
   ·simp only [loadVar,aL,ha,aB,be,bO] at h ⊢
    exact load_same hb hs h
   ·simp only [loadVar,aL,ha,aB,if_true,hz,loadCells] at h ⊢
    cases hr:(loadCellsFrom a 0 i.size #[]).run P w with
    | halt x w1=>rw [hr] at h;cases h
    | ok r w1=>
     rw [hr] at h
     simp only [aB,bv,Result.ok.injEq] at h
     obtain ⟨h1,h2⟩:=h
     subst h2
     rw [loadCellsFrom_same hb hs _ _ _ _ hr]
     simp [h1]
def holdS (row:Option (Option Nat)) (w0 w:World):Prop:=match row with
 | none=>w=w0
 | some r=>w0.grownBy w r
theorem ldTVc_ok {a:Value} {row:Option (Option Nat)} {w0:World} (h:ldTVc P t a row w0 Q):∃v,Q v/\∀w,holdS row w0 w->(Instr.loadAt t a).run P w=.ok v w:=by
 unfold ldTVc at h
 split at h
 ·obtain ⟨v,hr,hq⟩:=ldVc_ok h
  exact ⟨v,hq,fun w hw=>by cases hw;exact hr⟩
 ·rename_i r
  split at h
  ·rename_i ad
   obtain ⟨hne,⟨c,ty,f,hb⟩,h⟩:=h
   obtain ⟨v,hr,hq⟩:=ldVc_ok h
   refine ⟨v,hq,fun w hw=>?_⟩
   have hlt:ad.block < w0.heap.size:=(aS.1 hb).1
   have hs:=World.grownBy.block hw ad.block hlt hne
   simp only [Instr.loadAt,Instr.sureAddr,aL,bv,aB] at hr ⊢
   exact loadVar_same hb hs hr
  ·exact h.elim
theorem cvTVc_ok {s d:TypeId} {x:Value} {row:Option (Option Nat)} {w0:World} (h:cvTVc P s d x row w0 Q):∃v,Q v/\∀w,holdS row w0 w->(convert s d x).run P w=.ok v w:=by
 unfold cvTVc at h
 split at h
 ·obtain ⟨v,hr,hq⟩:=exT_some h
  exact ⟨v,hq,fun w hw=>by cases hw;exact hr⟩
 ·obtain ⟨v,hr,hq⟩:=exT_some h
  exact ⟨v,hq,fun w hw=>hr w hw⟩
section
variable {P:Program} {ops:Array Oper} {Q:Exit->Act->World->Prop}
theorem planVc_ok (hP:Fine P) {M:Nat->Bool} {base:Nat->Value} (hsel:Region.noSelect ops=true) (hQp:∀c a w,¬Q (.panic c) a w) {K:Env->World->Prop}
  (hQ:∀e a w,Ag n M base e a->K e w->Q .normal a w) {row:Option (Option Nat)} {w0:World} {tl:Nat} :
  ∀(p:Plan) (d:Nat) (done:Nat) (listed:Array Bool) (e:Env) (a:Act) (w:World) (past:Bool),planDepth p d=true->planOk ops ops.toList (ops.toList.map emask) tl p done past=true->(past=false->holdS row w0 w) ->
   Lst ops done listed->Ag n M base e a->planVc P M ops.toList tl row w0 p e K w->wpAnyT P ops Q (holdS row w0) (fun i=>tl.testBit i) d listed a w:=by
 have readyOf:∀(i:Nat) (oi:Oper) (done:Nat) (listed:Array Bool),ops[i]?=some oi->done.testBit i=false->within (emask oi) done=true->Lst ops done listed->i∈Region.ready .any ops listed:=by
  intro i oi done listed hoi hnd hwi hl
  have hlt:i < ops.size:=(aS.1 hoi).1
  refine mem_ready.2 ⟨by rw [hl.iff i hlt];exact hnd,oi,hoi,fun ed he hb=>?_⟩
  have ht:(emask oi).testBit ed.on=true:=emask_spec.2 ⟨ed,he,hb,rfl⟩
  have hd:=within_spec hwi ht
  rw [hl.getD_false,hd,Bool.and_true,ah]
  rcases Nat.lt_or_ge ed.on ops.size with h1 | h1
  ·exact h1
  ·have:=Nat.testBit_lt_two_pow (ci hl.lt (bR (by omega) h1))
   rw [this] at hd;cases hd
 have onlyOf:∀(i k:Nat) (done:Nat) (listed:Array Bool),noneReady i k done (ops.toList.map emask) 0=true->Lst ops done listed->∀j∈Region.ready .any ops listed,j=i\/j=k:=by
  intro i k done listed hcond hl j hj
  obtain ⟨h0,oj,hoj,hall⟩:=mem_ready.1 hj
  have hjlt:j < ops.size:=(aS.1 hoj).1
  rw [hl.iff j hjlt] at h0
  apply Classical.byContradiction
  intro hne
  have hne1:j≠i:=fun e=>hne (.inl e)
  have hne2:j≠k:=fun e=>hne (.inr e)
  have:=noneReady_spec ops.toList 0 hcond j oj (by rw [bH];exact hoj) (by simpa using h0) (by simpa using hne1) (by simpa using hne2)
  have hin:within (emask oj) done=true:=by
   unfold within
   have:(emask oj &&& done)=emask oj:=by
    apply Nat.eq_of_testBit_eq
    intro q
    rw [Nat.testBit_and]
    cases hq:(emask oj).testBit q
    ·rfl
    ·obtain ⟨ed,he,hb,rfl⟩:=emask_spec.1 hq
     have:=hall ed he hb
     rw [hl.getD_false,aM] at this
     rw [this.2];rfl
   rw [this];exact Nat.beq_refl _
  rw [hin] at this;cases this
 have goStep:∀(i:Nat) (oi:Oper) (e:Env) (a:Act) (w:World) (L:Act->World->Prop) (Kn:Env->World->Prop),ops[i]?=some oi->(tl.testBit i=false->holdS row w0 w)->Ag n M base e a ->
   oneVc P M ops.toList tl row w0 i false e w Kn->(∀e' a' w',Ag n M base e' a'->(tl.testBit i=false->holdS row w0 w')->Kn e' w'->L a' w') ->
   wpOp P ops Q i (fun a' w'=>(tl.testBit i=false->holdS row w0 w')/\L a' w') a w:=by
  intro i oi e a w L Kn hoi' hS ha h next
  have hoi:ops.toList[i]?=some oi:=by rw [bH];exact hoi'
  simp only [oneVc,hoi] at h
  obtain ⟨e1,ha1,hc⟩:=guardVc_ok h ha
  unfold wpOp
  simp only [hoi']
  rcases hc with ⟨hw,hy⟩ | ⟨hw,hn⟩
  ·rw [aG hw]
   refine .inl (stepVc_ok hP hy ha1 fun e' a' w' ha' hk=>?_)
   unfold keptVc at hk
   cases ht:tl.testBit i
   ·rw [ht] at hk
    cases row with
    | none=>exact hk.elim
    | some r=>exact ⟨fun _=>hk.1,next e' a' w' ha' (fun _=>hk.1) hk.2⟩
   ·rw [ht] at hk
    exact ⟨fun h=>(by cases h),next e' a' w' ha' (fun h=>(by rw [ht] at h;cases h)) hk⟩
  ·rw [ap (by rw [hw];exact Bool.false_ne_true)]
   obtain ⟨e2,ha2,hk⟩:=putVc_ok hn ha1 (by simp)
   exact ⟨hS,next e2 _ w ha2 hS hk⟩
 intro p
 induction p with
 | done=>
  intro d done listed e a w past hdp hok _ hl ha h
  cases d with
  | succ d=>simp [planDepth] at hdp
  | zero=>
   refine ⟨?_,hQ e a w ha h⟩
   rw [List.eq_nil_iff_forall_not_mem]
   intro j hj
   obtain ⟨h0,o,ho,_⟩:=mem_ready.1 hj
   have hlt:j < ops.size:=(aS.1 ho).1
   rw [hl.iff j hlt] at h0
   have hd:done+1=2 ^ ops.toList.length:=aT hok
   have hd':done=2 ^ ops.size - 1:=by rw [bD] at hd;omega
   rw [hd',Nat.testBit_two_pow_sub_one] at h0
   simp [hlt] at h0
 | one i take rest ih=>
  intro d done listed e a w past hdp hok hS hl ha h
  cases d with
  | zero=>simp [planDepth] at hdp
  | succ d=>
  simp only [planDepth] at hdp
  simp only [planOk] at hok
  split at hok
  case h_2=>cases hok
  rename_i oi m hoi hm
  have hoi':ops[i]?=some oi:=by rw [<-bH];exact hoi
  have hlt:i < ops.size:=(aS.1 hoi').1
  rw [aW,hoi,aU,aZ] at hm
  subst hm
  simp only [aM,Bool.not_eq_true',cg] at hok
  obtain ⟨⟨⟨⟨hnd,hwi⟩,hpast⟩,hcond⟩,hrest⟩:=hok
  have hSi:tl.testBit i=false->holdS row w0 w:=fun ht=>hS (hpast.resolve_right (by simp [ht]))
  have hready:=readyOf i oi done listed hoi' hnd hwi hl
  have next:∀{e':Env} {a':Act} {w':World},Ag n M base e' a'->(tl.testBit i=false->holdS row w0 w')->planVc P M ops.toList tl row w0 rest e' K w'->wpAnyT P ops Q (holdS row w0) (fun i=>tl.testBit i) d (listed.setIfInBounds i true) a' w':=fun {e' a' w'} ha' hw' hk=>
   ih d (done ||| 2 ^ i) _ e' a' w' (tl.testBit i) hdp hrest hw' (hl.step i hlt) ha' hk
  cases take with
  | false=>
   simp only [cond_false] at hcond
   refine ⟨fun h0=>absurd hready (by rw [h0];simp),fun j hj=>?_⟩
   obtain rfl:j=i:=by rcases onlyOf i i done listed hcond hl j hj with h | h<;>exact h
   exact goStep j oi e a w _ _ hoi' hSi ha h fun e' a' w' ha' hw' hk=>next ha' hw' hk
  | true=>
   simp only [planVc,oneVc,hoi] at h
   obtain ⟨e1,ha1,hc⟩:=guardVc_ok h ha
   simp only [cond_true] at hcond
   have key:∃v e',YieldsIf P ops (fun w=>tl.testBit i=false->holdS row w0 w) oi v a/\Ag n M base e' (a.put oi.dst v)/\planVc P M ops.toList tl row w0 rest e' K w:=by
    rcases hc with ⟨hw,hy⟩ | ⟨hw,hn⟩
    ·have plain:∀{v k},(∀w,(execOp e1.op oi).run P w=.ok (.value v) w)->(∀b,k=some b->v=.bool b)->putVc M oi v k e1 (fun e'=>planVc P M ops.toList tl row w0 rest e' K w) ->
       ∃v e',YieldsIf P ops (fun w=>tl.testBit i=false->holdS row w0 w) oi v a/\Ag n M base e' (a.put oi.dst v)/\planVc P M ops.toList tl row w0 rest e' K w:=fun {v k} hr hk hp=>by
      obtain ⟨e',ha',hk'⟩:=putVc_ok hp ha1 hk
      exact ⟨v,e',.inl ⟨hw,fun w _=>by rw [ha1.ag.evals];exact hr w⟩,ha',hk'⟩
     have gen:takeVc P oi (tl.testBit i) e1 row w0 (fun v=>putVc M oi v none e1 (fun e'=>planVc P M ops.toList tl row w0 rest e' K w)) ->
       ∃v e',YieldsIf P ops (fun w=>tl.testBit i=false->holdS row w0 w) oi v a/\Ag n M base e' (a.put oi.dst v)/\planVc P M ops.toList tl row w0 rest e' K w:=fun hy=>by
      unfold takeVc at hy
      split at hy
      ·obtain ⟨v,hp,hr⟩:=pureVc_ok (fun x b hx=>ha1.ag.decOp hx) hy
       exact plain hr (by simp) hp
      ·split at hy
       ·rename_i t x hop htl
        obtain ⟨v,hp,hr⟩:=ldTVc_ok hy
        obtain ⟨e',ha',hk'⟩:=putVc_ok hp ha1 (by simp)
        refine ⟨v,e',.inl ⟨hw,fun w hw'=>?_⟩,ha',hk'⟩
        have:=hr w (hw' htl)
        rw [ha1.ag.evals]
        simp [execOp,hop,this]
       ·rename_i s d' x hop htl
        obtain ⟨v,hp,hr⟩:=cvTVc_ok hy
        obtain ⟨e',ha',hk'⟩:=putVc_ok hp ha1 (by simp)
        refine ⟨v,e',.inl ⟨hw,fun w hw'=>?_⟩,ha',hk'⟩
        have:=hr w (hw' htl)
        rw [ha1.ag.evals]
        simp [execOp,hop,this]
       ·exact hy.elim
     change takeStep P M oi (tl.testBit i) e1 row w0 _ at hy
     unfold takeStep at hy
     split at hy
     ·rename_i x hop
      exact plain (fun w=>by simp [execOp,hop]) (fun b hb=>ha1.ag.decOp hb) hy
     ·rename_i x hop
      exact plain (fun w=>by simp [execOp,hop]) (fun b hb=>ha1.ag.decOp hb) hy
     ·rename_i c x y hop
      split at hy
      ·rename_i hcc;exact plain (fun w=>by simp [execOp,hop,ha1.ag.decOp hcc,asBool]) (fun b hb=>ha1.ag.decOp hb) hy
      ·rename_i hcc;exact plain (fun w=>by simp [execOp,hop,ha1.ag.decOp hcc,asBool]) (fun b hb=>ha1.ag.decOp hb) hy
      ·obtain ⟨p,q,r,h1,h2,h3,hq⟩:=pickVc_ok hy
       exact plain (fun w=>by cases p<;>simp [execOp,hop,h1,h2,h3,asBool]) (by simp) hq
     ·exact gen hy
    ·obtain ⟨e',ha',hk'⟩:=putVc_ok hn ha1 (by simp)
     exact ⟨undef,e',.inr ⟨hw,rfl⟩,ha',hk'⟩
   obtain ⟨v,e',hy,ha',hk'⟩:=key
   have hrg:=reach_ok (i:=i) (done:=done) (MS:=ops.toList.map emask) (ops.toList.map emask) 0 0 (fun n=>by rw [aK]) (fun k hk=>by rw [Nat.zero_testBit] at hk;cases hk)
   refine wpAnyT_first (A:=fun j=>(reach i done (ops.toList.map emask) 0 0).testBit j) hoi' (Region.noSelect_spec hsel) (fun c a w hq=>absurd hq (hQp c _ w)) d listed a w ?_ ?_ hready hy hSi (next ha' hSi hk')
   ·intro j oj hoj hAj _
    obtain ⟨_,m,hm,h4⟩:=hrg j hAj
    rw [aW,bH,hoj,aU,aZ] at hm
    subst hm
    rcases h4 with h4 | ⟨q,hq,hq2⟩
    ·obtain ⟨ed,he,hb,he2⟩:=emask_spec.1 h4
     exact ⟨ed,he,hb,.inl he2⟩
    ·obtain ⟨ed,he,hb,rfl⟩:=emask_spec.1 hq
     exact ⟨ed,he,hb,.inr ⟨hq2,by rw [hl.getD_false,(hrg _ hq2).1,Bool.and_false]⟩⟩
   ·intro j oj hoj hne hun hno
    have hjlt:j < ops.size:=(aS.1 hoj).1
    rw [hl.iff j hjlt] at hun
    have:=othersOk_spec ops.toList 0 hcond j oj (by rw [bH];exact hoj) (by simpa using hun) (by simpa using hne) (by simpa using hno)
    exact ⟨this.1,fun ht=>by have h2:=this.2 ht;simpa using h2⟩
 | two i j x y ihx ihy=>
  intro d done listed e a w past hdp hok hS hl ha h
  cases d with
  | zero=>simp [planDepth] at hdp
  | succ d=>
  simp only [planDepth,aM] at hdp
  simp only [planOk] at hok
  split at hok
  case h_2=>cases hok
  rename_i m q hm hq
  simp only [aM,Bool.not_eq_true',cg] at hok
  obtain ⟨⟨⟨⟨⟨⟨⟨hndi,hndj⟩,hwi⟩,hwj⟩,hpast⟩,hnone⟩,hx⟩,hy⟩:=hok
  have at_:∀{k m:Nat},(ops.toList.map emask)[k]?=some m->∃o,ops[k]?=some o/\m=emask o:=by
   intro k m hk
   rw [aW] at hk
   cases ho:ops.toList[k]? with
   | none=>rw [ho] at hk;cases hk
   | some o=>
    rw [ho,aU,aZ] at hk
    exact ⟨o,by rw [<-bH];exact ho,hk.symm⟩
  obtain ⟨oi,hoi,rfl⟩:=at_ hm
  obtain ⟨oj,hoj,rfl⟩:=at_ hq
  have hlti:i < ops.size:=(aS.1 hoi).1
  have hltj:j < ops.size:=(aS.1 hoj).1
  have hSi:tl.testBit i=false->holdS row w0 w:=fun ht=>hS (hpast.resolve_right (by simp [ht]))
  have hSj:tl.testBit j=false->holdS row w0 w:=fun ht=>hS (hpast.resolve_right (by simp [ht]))
  have hready:=readyOf i oi done listed hoi hndi hwi hl
  refine ⟨fun h0=>absurd hready (by rw [h0];simp),fun k hk=>?_⟩
  rcases onlyOf i j done listed hnone hl k hk with rfl | rfl
  ·exact goStep k oi e a w _ _ hoi hSi ha h.1 fun e' a' w' ha' hw' hk'=>ihx d (done ||| 2 ^ k) _ e' a' w' (tl.testBit k) hdp.1 hx hw' (hl.step k hlti) ha' hk'
  ·exact goStep k oj e a w _ _ hoj hSj ha h.2 fun e' a' w' ha' hw' hk'=>ihy d (done ||| 2 ^ k) _ e' a' w' (tl.testBit k) hdp.2 hy hw' (hl.step k hltj) ha' hk'
end
theorem drawVc_ok (hP:Fine P) {M:Nat->Bool} {base:Nat->Value} {ops:Array Oper} {ms:List Nat} {tl:Nat} {p:Plan} {e:Env} {K:Env->World->Prop} {a:Act} {id:Nat} {Q:Exit->Act->World->Prop}
  (h:drawVc P M ops ms tl p e K w) (ha:Ag n M base e a) (hQp:∀c a w,¬Q (.panic c) a w) (hQ:∀e a w,Ag n M base e a->K e w->Q .normal a w):(Code.region id ops true).wp P Q a w:=by
 refine wp_region_any hP.mixed ?_
 have start:Lst ops 0 (Array.replicate ops.size false):=⟨by simp,aR _,fun j hj=>by simp [hj]⟩
 unfold drawVc at h
 split at h
 ·rename_i hb _
  simp only [aM,beq_iff_eq] at hb
  obtain ⟨⟨⟨hd,rfl⟩,hok⟩,hsel⟩:=hb
  rw [bD] at hd
  exact wpAny_of_T _ _ _ _ (planVc_ok (row:=none) (w0:=w.drew) hP hsel hQp hQ p ops.size 0 _ e a _ false hd hok (fun _=>rfl) start ha h)
 ·rename_i hb _
  simp only [aM,beq_iff_eq] at hb
  obtain ⟨⟨⟨hd,rfl⟩,hok⟩,hsel⟩:=hb
  obtain ⟨r,h⟩:=h
  rw [bD] at hd
  exact wpAny_of_T _ _ _ _ (planVc_ok (row:=some r) (w0:=w.drew) hP hsel hQp hQ p ops.size 0 _ e a _ false hd hok (fun _=>⟨rfl,rfl,rfl,aN _,fun _ _ _=>rfl⟩) start ha h)
 ·exact h.elim

/-! ### What holds at a loop's head and where ways meet: a relation over the slots' values -/
def Cur1 (k:TypeDesc) (A:Type):Type:=
 match k with
 | .int _=>Int->A
 | .bool=>Bool->A
 | .string=>ByteArray->A
 | .pointer _=>Option Addr->A
 | .slice _=>Option Addr->Nat->Nat->A
 | .float _=>Nat->A
 | .interface _=>Value->A
 | _=>A
def app1 {A:Type} (k:TypeDesc) (f:Cur1 k A) (v:Value) (Q:A->Prop):Prop:=
 match k,f,v with
 | .int k',f,.int k'' n=>sameK k' k'' (Q (f n))
 | .bool,f,.bool b=>Q (f b)
 | .string,f,.string s=>Q (f s)
 | .pointer _,f,.pointer a=>Q (f a)
 | .slice _,f,.slice a l c=>Q (f a l c)
 | .float k',f,.float k'' n=>(match decide (k'=k'') with | true=>Q (f n) | false=>False)
 | .interface _,f,v=>Q (f v)
 | _,_,_=>False
def all1 {A:Type} (k:TypeDesc) (f:Cur1 k A) (Q:Value->A->Prop):Prop:=
 match k,f with
 | .int k',f=>∀n:Int,Q (.int k' n) (f n)
 | .bool,f=>∀b:Bool,Q (.bool b) (f b)
 | .string,f=>∀s:ByteArray,Q (.string s) (f s)
 | .pointer _,f=>∀a:Option Addr,Q (.pointer a) (f a)
 | .slice _,f=>∀(a:Option Addr) (l c:Nat),Q (.slice a l c) (f a l c)
 | .float k',f=>∀b:Nat,Q (.float k' b) (f b)
 | .interface _,f=>∀v:Value,Q v (f v)
 | _,_=>True
def CurL:List TypeDesc->Type
 | []=>Nat->World->Prop
 | k::ks=>Cur1 k (CurL ks)
def appL:(ks:List TypeDesc)->CurL ks->List Value->Nat->World->Prop
 | [],f,_,n,w=>f n w
 | _::_,_,[],_,_=>False
 | k::ks,f,v::vs,n,w=>app1 k f v fun g=>appL ks g vs n w
def allL:(ks:List TypeDesc)->CurL ks->(List Value->(Nat->World->Prop)->Prop)->Prop
 | [],f,Q=>Q [] f
 | k::ks,f,Q=>all1 k f fun v g=>allL ks g fun vs h=>Q (v::vs) h
theorem all1_app1 {A : Type} {k : TypeDesc} {f : Cur1 k A} {v : Value} {Q : A → Prop} {R : Value → A → Prop} (ha : app1 k f v Q) (hall : all1 k f R) : ∃ g, Q g ∧ R v g := by
  cases k <;> simp only [app1] at ha <;> first
    | exact ha.elim
    | exact ⟨_, ha, hall v⟩
    | (cases v <;> first | exact ha.elim | exact ⟨_, ha, hall _⟩ | exact ⟨_, ha, hall _ _ _⟩ | (obtain ⟨rfl, hq⟩ := sameK_iff ha; exact ⟨_, hq, hall _⟩)
                         | (simp only at ha; split at ha; (rename_i hd; obtain rfl := of_decide_eq_true hd; exact ⟨_, ha, hall _⟩); exact ha.elim))
theorem allL_appL:∀{ks:List TypeDesc} {f:CurL ks} {vs:List Value} {n:Nat} {w:World} {R:List Value->(Nat->World->Prop)->Prop},appL ks f vs n w->allL ks f R->∃vs' g,vs'=vs.take ks.length/\vs'.length=ks.length/\g n w/\R vs' g
 | [],f,vs,n,w,R,ha,hall=>⟨[],f,by simp,rfl,ha,hall⟩
 | k::ks,f,[],n,w,R,ha,hall=>ha.elim
 | k::ks,f,v::vs,n,w,R,ha,hall=>by
  obtain ⟨g,hg,hr⟩:=all1_app1 ha hall
  obtain ⟨vs',g',rfl,hlen,hh,hR⟩:=allL_appL hg hr
  exact ⟨_,g',by simp,by simp at hlen ⊢;omega,hh,hR⟩
structure Hints where
 plans:List (Nat×List Nat×Nat×Plan)
 loops:List (Nat×List (Nat×TypeId)×List Nat)
 cuts:List (Nat×List (Nat×TypeId)×List Nat)
def look {α:Type}:List (Nat×α)->Nat->Option α
 | [],_=>none
 | (i,x)::r,j=>bif Nat.beq i j then some x else look r j
theorem look_cons {α:Type} (i:Nat) (x:α) (r:List (Nat×α)) (j:Nat):look ((i,x)::r) j=if i=j then some x else look r j:=by
 by_cases h:i=j
 ·subst h;simp [look]
 ·have:Nat.beq i j=false:=by rw [<-bY];exact fun hb=>h (aT hb)
  simp [look,this,h]
def firstReg:Code->Option Nat
 | .region id _ _=>some id
 | .seq a _=>firstReg a
 | .block _ c=>firstReg c
 | .loop c=>firstReg c
 | .cond _ a _=>firstReg a
 | _=>none
def inL:List Nat->Nat->Bool
 | [],_=>false
 | i::r,j=>Nat.beq i j || inL r j
def und (P:Program) (t:TypeId):TypeDesc:=(P.underlying t).getD .invalid
def havoc:List Nat->(Nat->Value)->Env->Env
 | [],_,e=>e
 | s::r,d,e=>(s,d s,none)::havoc r d e
def entries:List (Nat×TypeId)->List Value->Env->Env
 | (s,_)::r,v::vs,e=>(s,v,none)::entries r vs e
 | _,_,e=>e
def valsOf (sl:List (Nat×TypeId)) (e:Env):List Value:=sl.map fun s=>e.val s.1
def kindsOf (P:Program) (sl:List (Nat×TypeId)):List TypeDesc:=sl.map fun s=>und P s.2
abbrev Post:=Env->World->Prop
def codeVc (P:Program) (H:Hints):Code->(Nat->Bool)->Post->List (Nat×Post)->Post->Env->World->Prop
 | .skip,_,K,_,_,e,w=>K e w
 | .region id ops draw,M,K,_,_,e,w=>(match draw with
  | true=>(match look H.plans id with
   | some (ms,tl,p)=>drawVc P M ops ms tl p e K w
   | none=>False)
  | false=>opsVc P M ops.toList ops.toList e K w)
 | .seq a b,M,K,X,Rt,e,w=>(match (firstReg b).bind (look H.cuts) with
  | none=>codeVc P H a M (fun e' w'=>codeVc P H b M K X Rt e' w') X Rt e w
  | some (sl,ms)=>∃J:CurL (kindsOf P sl),codeVc P H a (fun d=>M d && inL ms d) (fun e' w'=>appL (kindsOf P sl) J (valsOf sl e') 0 w') X Rt e w /\
    ∀d:Nat->Value,allL (kindsOf P sl) J fun vs f=>∀w',f 0 w'->codeVc P H b M K X Rt (entries sl vs (havoc ms d e)) w')
 | .cond c t f,M,K,X,Rt,e,w=>(match e.decOp c with
  | some true=>codeVc P H t M K X Rt e w
  | some false=>codeVc P H f M K X Rt e w
  | none=>(match e.op c with
   | .bool b=>(b=true->codeVc P H t M K X Rt e w)/\(b=false->codeVc P H f M K X Rt e w)
   | _=>False))
 | .block id (.loop body),M,K,X,Rt,e,w=>(match look H.loops id with
  | some (sl,ms)=>∃Inv:CurL (kindsOf P sl),(∃m,appL (kindsOf P sl) Inv (valsOf sl e) m w) /\
    ∀d:Nat->Value,allL (kindsOf P sl) Inv fun vs f=>∀m w',f m w' ->
     codeVc P H body (fun d=>M d && inL ms d) (fun e' w''=>∃m',m' < m/\appL (kindsOf P sl) Inv (valsOf sl e') m' w'') ((id,K)::X) Rt (entries sl vs (havoc ms d e)) w'
  | none=>False)
 | .block id c,M,K,X,Rt,e,w=>codeVc P H c M K ((id,K)::X) Rt e w
 | .exit id,_,_,X,_,e,w=>(match look X id with
  | some K'=>K' e w
  | none=>False)
 | .ret,_,_,_,Rt,e,w=>Rt e w
 | _,_,_,_,_,_,_=>False
def QQ (n:Nat) (M:Nat->Bool) (base:Nat->Value) (K:Post) (X:List (Nat×Post)) (Rt:Post):Exit->Act->World->Prop
 | .normal,a,w=>∃e,Ag n M base e a/\K e w
 | .exit id,a,w=>∃e,Ag n M base e a/\∃K',look X id=some K'/\K' e w
 | .ret,a,w=>∃e,Ag n M base e a/\Rt e w
 | _,_,_=>False
theorem inL_iff {l:List Nat}:inL l j=true↔j∈l:=by
 induction l with
 | nil=>simp [inL]
 | cons i r ih=>
  simp only [inL,cg,ih,aI]
  constructor
  ·rintro (h | h)
   ·exact .inl (aT h).symm
   ·exact .inr h
  ·rintro (rfl | h)
   ·exact .inl (Nat.beq_refl _)
   ·exact .inr h
theorem havoc_val (ms:List Nat) (d:Nat->Value) (e:Env) (j:Nat):(havoc ms d e).val j=if j∈ms then d j else e.val j:=by
 induction ms with
 | nil=>simp [havoc]
 | cons s r ih=>
  simp only [havoc,Env.val_cons,ih,aI]
  by_cases h:s=j
  ·subst h;simp
  ·simp [h,Ne.symm h]
theorem havoc_dec (ms:List Nat) (d:Nat->Value) (e:Env) (j:Nat):(havoc ms d e).dec j=if j∈ms then none else e.dec j:=by
 induction ms with
 | nil=>simp [havoc]
 | cons s r ih=>
  simp only [havoc,Env.dec_cons,ih,aI]
  by_cases h:s=j
  ·subst h;simp
  ·simp [h,Ne.symm h]
theorem entries_val (sl:List (Nat×TypeId)) (g:Nat->Value) (e:Env) (j:Nat):(entries sl (sl.map fun s=>g s.1) e).val j=if j∈sl.map (·.1) then g j else e.val j:=by
 induction sl with
 | nil=>simp [entries]
 | cons s r ih=>
  obtain ⟨s,t⟩:=s
  simp only [aX,entries,Env.val_cons,ih,aI]
  by_cases h:s=j
  ·subst h;simp
  ·have h':¬j=s:=fun e=>h e.symm
   rw [ap h]
   simp only [h',false_or]
theorem entries_dec (sl:List (Nat×TypeId)) (g:Nat->Value) (e:Env) (j:Nat):(entries sl (sl.map fun s=>g s.1) e).dec j=if j∈sl.map (·.1) then none else e.dec j:=by
 induction sl with
 | nil=>simp [entries]
 | cons s r ih=>
  obtain ⟨s,t⟩:=s
  simp only [aX,entries,Env.dec_cons,ih,aI]
  by_cases h:s=j
  ·subst h;simp
  ·have h':¬j=s:=fun e=>h e.symm
   rw [ap h]
   simp only [h',false_or]
theorem Ag.meet {M:Nat->Bool} {base:Nat->Value} {e e':Env} {a a':Act} {ms:List Nat} (ha:Ag n M base e a) (ha':Ag n (fun d=>M d && inL ms d) e.val e' a') (sl:List (Nat×TypeId)) :
  Ag n (fun d=>M d && inL ms d) e.val (entries sl (valsOf sl e') (havoc ms e'.val e)) a'/\(∀j,M j=false->(entries sl (valsOf sl e') (havoc ms e'.val e)).val j=base j):=by
 have hv:∀j,(entries sl (valsOf sl e') (havoc ms e'.val e)).val j=e'.val j:=fun j=>by
  unfold valsOf
  rw [entries_val sl e'.val,havoc_val]
  split
  ·rfl
  ·split
   ·rfl
   ·rename_i h
    refine (ha'.only j ?_).symm
    have:inL ms j=false:=by rw [<-bY,inL_iff];exact h
    simp [this]
 refine ⟨⟨⟨ha'.ag.size,fun j=>by rw [hv];exact ha'.ag.get j,fun j b hb=>?_,ha'.ag.defers⟩,ha'.lt,fun j hj=>by rw [hv];exact ha'.only j hj⟩,fun j hj=>?_⟩
 ·rw [hv]
  unfold valsOf at hb
  rw [entries_dec sl e'.val,havoc_dec] at hb
  split at hb
  ·cases hb
  ·split at hb
   ·cases hb
   ·rename_i h
    have:inL ms j=false:=by rw [<-bY,inL_iff];exact h
    rw [ha'.only j (by simp [this])]
    exact ha.ag.dec j b hb
 ·rw [hv,ha'.only j (by simp [hj])]
  exact ha.only j hj
theorem Ag.outer {M M':Nat->Bool} {base:Nat->Value} {e e':Env} {a a':Act} (ha:Ag n M base e a) (hM:∀d,M d=false->M' d=false) (ha':Ag n M' e.val e' a'):Ag n M base e' a' where
 ag:=ha'.ag
 lt:=ha.lt
 only j hj:=by rw [ha'.only j (hM j hj)];exact ha.only j hj
theorem least {p:Nat->Prop} (h:∃n,p n):∃n,p n/\∀m,p m->n<=m:=by
 obtain ⟨n,hn⟩:=h
 induction n using Nat.strongRecOn with
 | _ n ih=>
  by_cases hex:∃m,m < n/\p m
  ·obtain ⟨m,hm,hp⟩:=hex;exact ih m hm hp
  ·exact ⟨n,hn,fun m hm=>by
    rcases Nat.lt_or_ge m n with h | h
    ·exact absurd ⟨m,h,hm⟩ hex
    ·exact h⟩
theorem wp_loop_m {Q:Exit->Act->World->Prop} {c:Code} (J:Nat->Act->World->Prop) {a:Act} (h₀:∃m,J m a w)
  (round:∀m a w,J m a w->c.wp P (Exit.then (fun a' w'=>∃m',m' < m/\J m' a' w') Q) a w):(Code.loop c).wp P Q a w:=by
 classical
 let μ:Act->World->Nat:=fun a w=>if h:∃m,J m a w then Classical.choose (least h) else 0
 have hμ:∀a w,(∃m,J m a w)->J (μ a w) a w/\∀m,J m a w->μ a w<=m:=fun a w h=>by
  simp only [μ,dif_pos h]
  exact Classical.choose_spec (least h)
 refine wp_loop (fun a w=>∃m,J m a w) μ h₀ fun a w hI=>?_
 obtain ⟨h1,h2⟩:=hμ a w hI
 refine Code.wp_mono (fun e a' w' hq=>?_) (round _ a w h1)
 cases e<;>first | exact hq | skip
 obtain ⟨m',hlt,hJ⟩:=hq
 exact ⟨⟨m',hJ⟩,Nat.lt_of_le_of_lt ((hμ a' w' ⟨m',hJ⟩).2 m' hJ) hlt⟩
theorem codeVc_ok (hP:Fine P) (H:Hints):∀(c:Code) (M:Nat->Bool) (base:Nat->Value) (K:Post) (X:List (Nat×Post)) (Rt:Post) (e:Env) (a:Act) (w:World),
  codeVc P H c M K X Rt e w->Ag n M base e a->c.wp P (QQ n M base K X Rt) a w
 | .skip,M,base,K,X,Rt,e,a,w,h,ha=>wp_skip ⟨e,ha,h⟩
 | .region id ops draw,M,base,K,X,Rt,e,a,w,h,ha=>by
  cases draw
  ·simp only [codeVc] at h
   exact wp_region_list (opsVc_ok hP (fun e a w ha hk=>⟨e,ha,hk⟩) ops.toList e a w h ha)
  ·simp only [codeVc] at h
   split at h
   ·exact drawVc_ok hP h ha (fun _ _ _ h=>h) (fun e a w ha hk=>⟨e,ha,hk⟩)
   ·exact h.elim
 | .seq x y,M,base,K,X,Rt,e,a,w,h,ha=>by
  simp only [codeVc] at h
  refine wp_seq ?_
  split at h
  ·refine Code.wp_mono (fun ex a' w' hq=>?_) (codeVc_ok hP H x M base _ X Rt e a w h ha)
   cases ex<;>first | exact hq | skip
   obtain ⟨e',ha',hk⟩:=hq
   exact codeVc_ok hP H y M base K X Rt e' a' w' hk ha'
  ·rename_i sl ms hc
   obtain ⟨J,h1,h2⟩:=h
   have hin:Ag n (fun d=>M d && inL ms d) e.val e a:=⟨ha.ag,fun d hd=>ha.lt d (by simp only [aM] at hd;exact hd.1),fun _ _=>rfl⟩
   refine Code.wp_mono (fun ex a' w' hq=>?_) (codeVc_ok hP H x _ e.val _ X Rt e a w h1 hin)
   have out:∀e',Ag n (fun d=>M d && inL ms d) e.val e' a'->Ag n M base e' a':=fun e'=>ha.outer (fun d hd=>by simp [hd])
   cases ex<;>first | exact hq | skip
   case normal=>
    obtain ⟨e',ha',hk⟩:=hq
    obtain ⟨vs,g,hvs,_,hg,hR⟩:=allL_appL hk (h2 e'.val)
    rw [bA (by simp [valsOf,kindsOf])] at hvs
    subst hvs
    obtain ⟨hm,hm2⟩:=ha.meet ha' sl
    exact codeVc_ok hP H y M base K X Rt _ a' w' (hR w' hg) ⟨hm.ag,ha.lt,hm2⟩
   case exit id=>
    obtain ⟨e',ha',hk⟩:=hq
    exact ⟨e',out e' ha',hk⟩
   case ret=>
    obtain ⟨e',ha',hk⟩:=hq
    exact ⟨e',out e' ha',hk⟩
 | .cond c x y,M,base,K,X,Rt,e,a,w,h,ha=>by
  simp only [codeVc] at h
  split at h
  ·rename_i hd
   exact wp_cond_true (by rw [ha.ag.eval];exact ha.ag.decOp hd) (codeVc_ok hP H x M base K X Rt e a w h ha)
  ·rename_i hd
   exact wp_cond_false (by rw [ha.ag.eval];exact ha.ag.decOp hd) (codeVc_ok hP H y M base K X Rt e a w h ha)
  ·split at h
   ·rename_i b hb
    exact wp_cond_split (by rw [ha.ag.eval];exact hb) (fun hbt=>codeVc_ok hP H x M base K X Rt e a w (h.1 hbt) ha) (fun hbf=>codeVc_ok hP H y M base K X Rt e a w (h.2 hbf) ha)
   ·exact h.elim
 | .block id (.loop body),M,base,K,X,Rt,e,a,w,h,ha=>by
  simp only [codeVc] at h
  split at h
  ·rename_i sl ms hc
   obtain ⟨Inv,h1,h2⟩:=h
   have hin:Ag n (fun d=>M d && inL ms d) e.val e a:=⟨ha.ag,fun d hd=>ha.lt d (by simp only [aM] at hd;exact hd.1),fun _ _=>rfl⟩
   refine wp_block (wp_loop_m (fun m a w=>∃e',Ag n (fun d=>M d && inL ms d) e.val e' a/\appL (kindsOf P sl) Inv (valsOf sl e') m w) ?_ ?_)
   ·obtain ⟨m,h1⟩:=h1
    exact ⟨m,e,hin,h1⟩
   ·rintro m a' w' ⟨e',ha',hk⟩
    obtain ⟨vs,g,hvs,_,hg,hR⟩:=allL_appL hk (h2 e'.val)
    rw [bA (by simp [valsOf,kindsOf])] at hvs
    subst hvs
    obtain ⟨hm,_⟩:=ha.meet ha' sl
    refine Code.wp_mono (fun ex a'' w'' hq=>?_) (codeVc_ok hP H body _ e.val _ _ Rt _ a' w' (hR m w' hg) hm)
    have out:∀e'',Ag n (fun d=>M d && inL ms d) e.val e'' a''->Ag n M base e'' a'':=fun e''=>ha.outer (fun d hd=>by simp [hd])
    cases ex<;>first | exact hq.elim | skip
    case normal=>
     obtain ⟨e'',ha'',m',hlt,hk''⟩:=hq
     exact ⟨m',hlt,e'',ha'',hk''⟩
    case exit id'=>
     obtain ⟨e'',ha'',K',hl,hk''⟩:=hq
     simp only [Exit.then,Exit.inBlock]
     rw [look_cons] at hl
     by_cases hid:id=id'
     ·rw [aG hid] at hl
      rw [aG hid.symm]
      cases hl
      exact ⟨e'',out e'' ha'',hk''⟩
     ·rw [ap hid] at hl
      rw [ap (Ne.symm hid)]
      exact ⟨e'',out e'' ha'',K',hl,hk''⟩
    case ret=>
     obtain ⟨e'',ha'',hk''⟩:=hq
     exact ⟨e'',out e'' ha'',hk''⟩
  ·exact h.elim
 | .block id (.skip),M,base,K,X,Rt,e,a,w,h,ha=>block_ok (codeVc_ok hP H .skip M base K _ Rt e a w h ha)
 | .block id (.region i o d),M,base,K,X,Rt,e,a,w,h,ha=>block_ok (codeVc_ok hP H (.region i o d) M base K _ Rt e a w h ha)
 | .block id (.seq x y),M,base,K,X,Rt,e,a,w,h,ha=>block_ok (codeVc_ok hP H (.seq x y) M base K _ Rt e a w h ha)
 | .block id (.cond c x y),M,base,K,X,Rt,e,a,w,h,ha=>block_ok (codeVc_ok hP H (.cond c x y) M base K _ Rt e a w h ha)
 | .block id (.block i c),M,base,K,X,Rt,e,a,w,h,ha=>block_ok (codeVc_ok hP H (.block i c) M base K _ Rt e a w h ha)
 | .block id (.exit i),M,base,K,X,Rt,e,a,w,h,ha=>block_ok (codeVc_ok hP H (.exit i) M base K _ Rt e a w h ha)
 | .block id (.ret),M,base,K,X,Rt,e,a,w,h,ha=>block_ok (codeVc_ok hP H .ret M base K _ Rt e a w h ha)
 | .block id (.rangeFunc ..),_,_,_,_,_,_,_,_,h,_=>h.elim
 | .block id (.scope _),_,_,_,_,_,_,_,_,h,_=>h.elim
 | .block id (.label _),_,_,_,_,_,_,_,_,h,_=>h.elim
 | .block id (.goto _),_,_,_,_,_,_,_,_,h,_=>h.elim
 | .block id (.refuse _),_,_,_,_,_,_,_,_,h,_=>h.elim
 | .loop _,_,_,_,_,_,_,_,_,h,_=>h.elim
 | .exit id,M,base,K,X,Rt,e,a,w,h,ha=>by
  simp only [codeVc] at h
  split at h
  ·rename_i K' hl;exact wp_exit ⟨e,ha,K',hl,h⟩
  ·exact h.elim
 | .ret,M,base,K,X,Rt,e,a,w,h,ha=>wp_ret ⟨e,ha,h⟩
 | .rangeFunc ..,_,_,_,_,_,_,_,_,h,_=>h.elim
 | .scope _,_,_,_,_,_,_,_,_,h,_=>h.elim
 | .label _,_,_,_,_,_,_,_,_,h,_=>h.elim
 | .goto _,_,_,_,_,_,_,_,_,h,_=>h.elim
 | .refuse _,_,_,_,_,_,_,_,_,h,_=>h.elim
 where
 block_ok {P:Program} {n:Nat} {M:Nat->Bool} {base:Nat->Value} {K:Post} {X:List (Nat×Post)} {Rt:Post} {id:Nat} {c:Code} {a:Act} {w:World} (h:c.wp P (QQ n M base K ((id,K)::X) Rt) a w):(Code.block id c).wp P (QQ n M base K X Rt) a w:=by
  refine wp_block (Code.wp_mono (fun ex a' w' hq=>?_) h)
  cases ex<;>first | exact hq | skip
  case exit id'=>
   obtain ⟨e',ha',K',hl,hk⟩:=hq
   simp only [Exit.inBlock]
   rw [look_cons] at hl
   by_cases hid:id=id'
   ·rw [aG hid] at hl
    rw [aG hid.symm]
    cases hl
    exact ⟨e',ha',hk⟩
   ·rw [ap hid] at hl
    rw [ap (Ne.symm hid)]
    exact ⟨e',ha',K',hl,hk⟩
def rvVc (P:Program) (r:ResultVar) (e:Env) (w:World) (Q:Value->Prop):Prop:=
 match r with
 | .tmp t=>Q (e.val t)
 | .cell a t=>ldVc P t (e.val a) (fun v _=>Q v) w
def rvsVc (P:Program) (e:Env) (w:World):List ResultVar->(List Value->Prop)->Prop
 | [],Q=>Q []
 | r::rs,Q=>rvVc P r e w fun v=>rvsVc P e w rs fun vs=>Q (v::vs)
def resVc (P:Program) (rs:List ResultVar) (R:Ending->World->Prop):Post:=fun e w=>
 match rs with
 | [r]=>rvVc P r e w fun v=>R (.returned v) w
 | rs=>rvsVc P e w rs fun vs=>R (.returned (.tuple vs.toArray)) w
def argEnv:List Value->Nat->Env
 | [],_=>[]
 | v::r,i=>(i,v,none)::argEnv r (i+1)
theorem argEnv_val:∀(vs:List Value) (i j:Nat),(argEnv vs i).val j=if i<=j then vs.getD (j - i) undef else undef
 | [],i,j=>by simp [argEnv,Env.val]
 | v::r,i,j=>by
  simp only [argEnv,Env.val_cons,argEnv_val r (i+1) j]
  by_cases h:i=j
  ·subst h;simp
  ·rw [ap h]
   by_cases h1:i+1<=j
   ·rw [aG h1,aG (by omega),show j - i=(j - (i+1))+1 by omega];simp
   ·rw [ap h1,ap (by omega)]
theorem argEnv_dec:∀(vs:List Value) (i j:Nat),(argEnv vs i).dec j=none
 | [],i,j=>rfl
 | v::r,i,j=>by
  simp only [argEnv,Env.dec_cons,argEnv_dec r (i+1) j]
  simp
def rvRead (tmps:Array Value):ResultVar->Sem Value
 | .tmp t=>pure (tmps.getD t undef)
 | .cell a t=>do loadVar t (<-asAddr (tmps.getD a undef))
theorem rv_ok {r:ResultVar} {e:Env} {a:Act} (ha:Agree n e a) (h:rvVc P r e w Q):∃v,Q v/\(rvRead a.tmps r).run P w=.ok v w:=by
 cases r with
 | tmp t=>exact ⟨_,h,by rw [<-ha.get t];rfl⟩
 | cell ad t=>
  simp only [rvVc] at h
  obtain ⟨v,hr,hq⟩:=ldVc_ok h
  refine ⟨v,hq,?_⟩
  simp only [rvRead,aL,ha.get]
  cases hv:e.val ad<;>rw [hv] at hr<;>first
   | (simp [Instr.loadAt,Instr.sureAddr] at hr;done)
   | skip
  rename_i p
  cases p with
  | none=>simp [Instr.loadAt,Instr.sureAddr] at hr
  | some p=>
   simp only [Instr.loadAt,Instr.sureAddr,aL,bv,aB] at hr
   simp only [asAddr,bv,aB]
   exact hr
theorem rvs_ok {e:Env} {a:Act} (ha:Agree n e a):∀(rs:List ResultVar) (Q:List Value->Prop),rvsVc P e w rs Q->∃vs,Q vs/\vs.length=rs.length/\(rs.mapM (rvRead a.tmps)).run P w=.ok vs w
 | [],Q,h=>⟨[],h,rfl,rfl⟩
 | r::rs,Q,h=>by
  obtain ⟨v,h,hv⟩:=rv_ok ha h
  obtain ⟨vs,hq,hl,hr⟩:=rvs_ok ha rs _ h
  exact ⟨v::vs,hq,by simp [hl],by rw [List.mapM_cons];simp only [aL,hv,aB,hr,bv]⟩
theorem results_eq (fn:Func) (tmps:Array Value) (P:Program) (w:World):(results fn tmps).run P w=((fn.results.toList.mapM (rvRead tmps)).run P w).andThen fun vs w'=>.ok (match vs with | [v]=>v | vs=>.tuple vs.toArray) w':=by
 unfold results
 rw [Array.mapM_eq_mapM_toList]
 simp only [aL,Sem.run_map]
 change (((Sem.run P (List.mapM (rvRead tmps) fn.results.toList) w).andThen fun a w'=>Result.ok a.toArray w').andThen _)=_
 cases (List.mapM (rvRead tmps) fn.results.toList).run P w with
 | halt x w'=>rfl
 | ok vs w'=>
  simp only [aB,bv]
  congr 1
  match vs with
  | []=>rfl
  | [v]=>rfl
  | v::u::r=>simp
theorem resVc_ok {fn:Func} {e:Env} {a:Act} (ha:Agree n e a) (h:resVc P fn.results.toList R e w) :
  a.defers=[]/\∃v,(results fn a.tmps).run P w=.ok v w/\R (.returned v) w:=by
 refine ⟨ha.defers,?_⟩
 rw [results_eq]
 unfold resVc at h
 split at h
 ·rename_i r hr
  rw [hr]
  obtain ⟨v,hq,hv⟩:=rv_ok ha h
  exact ⟨v,by rw [List.mapM_cons];simp only [aL,hv,aB,List.mapM_nil,bv],hq⟩
 ·rename_i hne
  obtain ⟨vs,hq,hl,hr⟩:=rvs_ok ha _ _ h
  refine ⟨_,by rw [hr];rfl,?_⟩
  match vs,hl with
  | [],_=>exact hq
  | [v],hl=>
   exfalso
   match hrs:fn.results.toList,hl with
   | [r],_=>exact hne r hrs
  | v::u::r,_=>exact hq
theorem calls_vc (hP:Fine P) (H:Hints) {fn:Func} {c:Code} {args:List Value} (hf:P.funcs[f]?=some fn) (hb:fn.body=some c) (hn:Nat.ble args.length fn.ntmps=true)
  (h:codeVc P H c (fun d=>Nat.blt d fn.ntmps) (resVc P fn.results.toList R) [] (resVc P fn.results.toList R) (argEnv args 0) w):Calls P f args.toArray w R:=by
 have hn':args.length<=fn.ntmps:=bV hn
 refine calls_of_wp hf hb ?_
 have ha:Ag fn.ntmps (fun d=>Nat.blt d fn.ntmps) (argEnv args 0).val (argEnv args 0) { tmps:=args.toArray++Array.replicate (fn.ntmps - args.toArray.size) undef,defers:=[] }:=by
  refine ⟨⟨by simp;omega,fun j=>?_,fun j b hd=>(by rw [argEnv_dec] at hd;cases hd),rfl⟩,fun d hd=>by simp only [Nat.blt,Nat.ble_eq] at hd;omega,fun _ _=>rfl⟩
  rw [argEnv_val,aG (bE _),Nat.sub_zero,bK,Array.getElem?_append]
  split
  ·rename_i hj
   simp [List.getD]
  ·rename_i hj
   rw [List.getD,List.getElem?_eq_none (by simpa using hj)]
   simp only [Option.getD_none]
   rw [Array.getElem?_replicate]
   split<;>rfl
 refine Code.wp_mono (fun ex a w hq=>?_) (codeVc_ok hP H c _ _ _ _ _ _ _ w h ha)
 cases ex<;>first | exact hq.elim | skip
 case normal=>obtain ⟨e,ha,hr⟩:=hq;exact resVc_ok ha.ag hr
 case exit id=>obtain ⟨e,ha,K,hl,_⟩:=hq;cases hl
 case ret=>obtain ⟨e,ha,hr⟩:=hq;exact resVc_ok ha.ag hr
theorem fine:Fine Tryz.prog where
 mixed:=by kernel_rfl
 names f fn hf:=by
  have hall:(Tryz.prog.funcs.all fun fn=>!(fn.name == "runtime.NumGoroutine"))=true:=by kernel_rfl
  have:=Array.all_eq_true_iff_forall_mem.1 hall fn (Array.mem_of_getElem? hf)
  simpa using this

noncomputable abbrev pg:Program:=Tryz.prog
def bodyOf (fn:Func):Code:=fn.body.getD .skip
abbrev RT:=Ending->World->Prop
abbrev Rk (p:Addr) (r:Option Nat) (w:World) (A:Prop):Prop:=some p.block≠r/\(∃c ty f,w.heap[p.block]?=some (.cells c ty f))/\A
abbrev Ix (a:Option Addr) (p:Addr) (i:Int) (l:Nat) (A:Prop):Prop:=a=some p/\0<=i/\i < ((l:Nat):Int)/\A
def ons:List Nat->Plan->Plan
 | [],t=>t
 | n::l,t=>.one (n / 2) (Nat.beq (n % 2) 1) (ons l t)
def Invk (r:Value) (name:String) (args:Array Value) (w:World) (R:Ending->World->Prop):Prop:=
 ∃t v f rc,r=.iface t v/\(method (pg.types.size+Made.depth) t v name).run pg w=.ok (f,rc) w/\hasBody pg f=true/\Calls pg f (#[rc]++args) w R
theorem calls_by (H:Hints) (fn:Func) {args:List Value} (hf:pg.funcs[f]?=some fn) {p:Prop} (h:p)
  (hn:(fn.body.isSome && Nat.ble args.length fn.ntmps)=true:=by kernel_rfl)
  (hp:p=codeVc pg H (bodyOf fn) (fun d=>Nat.blt d fn.ntmps) (resVc pg fn.results.toList R) [] (resVc pg fn.results.toList R) (argEnv args 0) w:=by kernel_rfl):Calls pg f args.toArray w R:=by
 rw [hp] at h
 simp only [aM] at hn
 obtain ⟨c,hc⟩:=bZ.1 hn.1
 exact calls_vc fine H hf hc hn.2 (by unfold bodyOf at h;rw [hc] at h;exact h)
abbrev Br (b:Bool) (X Y:Prop):Prop:=(b=true->X)/\(b=false->Y)
def rg (a n:Nat):List Nat:=List.range' a n
abbrev NV:=Nat->Value
abbrev NP:=Nat->World->Prop
def H10:Hints:=⟨[],[],[]⟩
def SW10 (f:Option Addr) (g i:Nat) (R:RT) (w:World):Prop:=
  Calls pg 16 #[.slice f g i] w (fun en u=>∃j,en=.returned (.bool j)/\Br (!j) (R (.returned (.bool true)) u) (Calls pg 17 #[.slice f g i] u (fun en v=>∃b c d S T U k,en=.returned (.tuple #[.slice b c d,.slice S T U,.bool k])/\Br (!k) (R (.returned (.bool true)) v) (Calls pg 29 #[.slice b c d] v (fun en x=>∃l a m,en=.returned (.tuple #[.string l,.bool a,.bool m])/\Br (!m) (R (.returned (.bool true)) x) (Calls pg 19 #[.slice b c d] x (fun en V=>∃y z A,en=.returned (.slice y z A)/\Calls pg 30 #[.slice y z A] V (fun en W=>∃n o,en=.returned (.tuple #[.string n,.bool o])/\Calls pg 19 #[.slice b c d] W (fun en X=>∃B C D,en=.returned (.slice B C D)/\Calls pg 31 #[.slice B C D] X (fun en Y=>∃E F G p,en=.returned (.tuple #[.slice E F G,.bool p])/\Calls pg 32 #[.slice E F G] Y (fun en Z=>∃H I J q,en=.returned (.tuple #[.slice H I J,.bool q])/\Calls pg 19 #[.slice b c d] Z (fun en aa=>∃K L M,en=.returned (.slice K L M)/\Calls pg 33 #[.slice K L M] aa (fun en r=>∃s,en=.returned (.bool s)/\Br (!(s == a)) (R (.returned (.bool false)) r) (Br (!(p == a)) (R (.returned (.bool false)) r) (Calls pg 13 #[] r (fun en e=>∃t,en=.returned (.bool t)/\Br (!t) (R (.returned (.bool false)) e) (Br (!a) (R (.returned (.bool true)) e) (Br o (Br (n.toList == l.toList) (Br q (Calls pg 15 #[.slice H I J] e (fun en ab=>∃N O P,en=.returned (.slice N O P)/\Calls pg 14 #[.slice N O P,.slice b c d] ab (fun en ac=>∃Q,en=.returned (.bool Q)/\R (.returned (.bool Q)) ac))) (R (.returned (.bool false)) e)) (R (.returned (.bool false)) e)) (R (.returned (.bool false)) e)))))))))))))))))))
theorem of10 {f g i R w} (h:SW10 f g i R w):Calls pg 10 #[.slice f g i] w R:=
  calls_by H10 _ Tryz.func10 h
def H12:Hints:=⟨[],[],[]⟩
def SW12 (b:Option Addr) (c d:Nat) (R:RT) (w:World):Prop:=
  gNew (#[.slice b c d]) 22 (fun s t=>gNew #[.slice none 0 0] 26 (fun a u=>Calls pg 34 #[.func (.func 35) #[] #[.pointer (some s),.pointer (some a)]] u (fun en e=>∃f,en=.returned (.bool f)/\Br (!f) (∃g,StV pg 26 a (.slice none 0 0) e g/\∃j k l,g.cell? a=some (.slice j k l)/\R (.returned (.tuple #[.slice j k l,.bool false])) g) (∃m n o,e.cell? a=some (.slice m n o)/\∃i,StV pg 26 a (.slice m n o) e i/\∃p q r,i.cell? a=some (.slice p q r)/\R (.returned (.tuple #[.slice p q r,.bool true])) i))) t) w
theorem of12 {b c d R w} (h:SW12 b c d R w):Calls pg 12 #[.slice b c d] w R:=
  calls_by H12 _ Tryz.func12 h
def H13:Hints:=⟨[],[],[]⟩
def SW13  (R:RT) (w:World):Prop:=
  Calls pg 39 #[.agg #[.int .i64 9,.int .u32 1,.int .u32 2,.int .u64 0,.int .u32 0,.int .u32 0,.int .u32 0,.slice none 0 0,.slice none 0 0,.slice none 0 0,.slice none 0 0,.string (ByteArray.mk #[]),.int .u8 0,.slice none 0 0,.slice none 0 0,.slice none 0 0,.slice none 0 0,.int .u32 0,.slice none 0 0,.int .u32 0,.int .u16 0,.int .u16 0,.int .u32 0,.int .u8 0,.slice none 0 0,.slice none 0 0,.bool false,.int .u8 0,.int .u8 0,.int .u16 0]] w (fun en p=>∃q c r d,en=.returned (.tuple #[.slice q c r,.bool d])/\gNew #[.int .u8 129,.int .u8 206,.int .u8 0,.int .u8 2,.int .u8 0,.int .u8 0,.int .u8 0,.int .u8 1,.int .u8 0,.int .u8 0,.int .u8 0,.int .u8 2] 5 (fun s t=>∃i j k l,(convert 22 22 (.slice (some s) 12 12)).run pg t=.ok (.slice i j k) l/\Calls pg 12 #[.slice i j k] l (fun en a=>∃e b u f,en=.returned (.tuple #[.slice e b u,.bool f])/\Br d (Br ((c:Int) == 12) (Br f (Br ((b:Int) == 1) (∃m,Ix e m 0 b (∃g,a.cell? ((m.add ((0:Int).toNat*30)).add 0)=some (.int .i64 g)/\Br (g == 9) (∃n,Ix e n 0 b (∃o,a.cell? ((n.add ((0:Int).toNat*30)).add 2)=some (.int .u32 o)/\R (.returned (.bool (o == 2))) a)) (R (.returned (.bool false)) a))) (R (.returned (.bool false)) a)) (R (.returned (.bool false)) a)) (R (.returned (.bool false)) a)) (R (.returned (.bool false)) a))) p)
theorem of13 {R w} (h:SW13  R w):Calls pg 13 #[] w R:=
  calls_by H13 _ Tryz.func13 h
def H14:Hints:=⟨[(6,[0,0,3,4,8,0,0,96,128,272,528],0,ons [1,3,5,7,11,13,15,17,8,18,21] .done)],[(0,[(13,3)],[4,5]++rg 13 15)],[]⟩
def SW14 (e:Option Addr) (c i:Nat) (f:Option Addr) (d j:Nat) (R:RT) (w:World):Prop:=
  Br ((c:Int) != (d:Int)) (R (.returned (.bool false)) w) (∃k:Int->NP,(∃v,k 0 v w)/\∀(x:NV) (a:Int) (q:Nat) (b:World),k a q b->Br (decide (a < (c:Int))) (∃g:Option Nat,∃l,Ix e l a c (Rk ((l.add (a.toNat*30))) g b.drew (∃r,LdV pg 63 (l.add (a.toNat*30)) (r) b.drew/\∃m,Ix f m a d (Rk ((m.add (a.toNat*30))) g b.drew (∃s,LdV pg 63 (m.add (a.toNat*30)) (s) b.drew/\Calls pg 40 #[r] b.drew (fun en t=>∃n,en=.returned (.string n)/\b.drew.grownBy t g/\Calls pg 40 #[s] t (fun en o=>∃p,en=.returned (.string p)/\b.drew.grownBy o g/\Br (!(n.toList == p.toList)) (R (.returned (.bool false)) o) (∃u,u < q/\k (i64.wrap (a+1)) u o)))))))) (R (.returned (.bool true)) b))
theorem of14 {e c i f d j R w} (h:SW14 e c i f d j R w):Calls pg 14 #[.slice e c i,.slice f d j] w R:=
  calls_by H14 _ Tryz.func14 h
def H15:Hints:=⟨[],[(0,[(3,23),(8,3)],[3,5]++rg 8 10)],[]⟩
def SW15 (c:Option Addr) (a e:Nat) (R:RT) (w:World):Prop:=
  ∃f:Option Addr->Nat->Nat->Int->NP,(∃x,f none 0 0 0 x w)/\∀(C:NV) (g:Option Addr) (i j:Nat) (b:Int) (m:Nat) (d:World),f g i j b m d->Br (decide (b < (a:Int))) (∃n,Ix c n b a (∃o,LdV pg 75 (n.add (b.toNat*30)) (o) d/\gNew #[.int .i64 0,.int .u32 0,.int .u32 0,.int .u64 0,.int .u32 0,.int .u32 0,.int .u32 0,.slice none 0 0,.slice none 0 0,.slice none 0 0,.slice none 0 0,.string (ByteArray.mk #[]),.int .u8 0,.slice none 0 0,.slice none 0 0,.slice none 0 0,.slice none 0 0,.int .u32 0,.slice none 0 0,.int .u32 0,.int .u16 0,.int .u16 0,.int .u32 0,.int .u8 0,.slice none 0 0,.slice none 0 0,.bool false,.int .u8 0,.int .u8 0,.int .u16 0] 75 (fun p y=>∃k,StV pg 75 p (o) y k/\∃q,LdV pg 75 p (q) k/\Calls pg 41 #[q] k (fun en z=>∃l,en=.returned (l)/\(l.cells).size=30/\gNew (l.cells) 63 (fun A B=>∃r s t u,(Builtin.append_ #[23,23] 23 #[.slice g i j,.slice (some A) 1 1]).run pg B=.ok (.slice r s t) u/\∃v,v < m/\f r s t (i64.wrap (b+1)) v u) z)) d)) (R (.returned (.slice g i j)) d)
theorem of15 {c a e R w} (h:SW15 c a e R w):Calls pg 15 #[.slice c a e] w R:=
  calls_by H15 _ Tryz.func15 h
def H16:Hints:=⟨[],[(0,[(10,3)],[2,4]++rg 10 8)],[]⟩
def SW16 (c:Option Addr) (a e:Nat) (R:RT) (w:World):Prop:=
  Br (decide ((a:Int) > 2147483647)) (R (.returned (.bool false)) w) (∃f:Int->NP,(∃q,f 0 q w)/\∀(s:NV) (b:Int) (j:Nat) (d:World),f b j d->Br (decide (b < (a:Int))) (∃k,Ix c k b a (∃l,LdV pg 63 (k.add (b.toNat*30)) (l) d/\gNew #[.int .i64 0,.int .u32 0,.int .u32 0,.int .u64 0,.int .u32 0,.int .u32 0,.int .u32 0,.slice none 0 0,.slice none 0 0,.slice none 0 0,.slice none 0 0,.string (ByteArray.mk #[]),.int .u8 0,.slice none 0 0,.slice none 0 0,.slice none 0 0,.slice none 0 0,.int .u32 0,.slice none 0 0,.int .u32 0,.int .u16 0,.int .u16 0,.int .u32 0,.int .u8 0,.slice none 0 0,.slice none 0 0,.bool false,.int .u8 0,.int .u8 0,.int .u16 0] 63 (fun m r=>∃g,StV pg 63 m (l) r g/\∃n,LdV pg 63 m (n) g/\Calls pg 42 #[n] g (fun en o=>∃i,en=.returned (.bool i)/\Br (!i) (R (.returned (.bool false)) o) (∃p,p < j/\f (i64.wrap (b+1)) p o))) d)) (R (.returned (.bool true)) d))
theorem of16 {c a e R w} (h:SW16 c a e R w):Calls pg 16 #[.slice c a e] w R:=
  calls_by H16 _ Tryz.func16 h
def H17:Hints:=⟨[],[(0,[(5,23),(6,22),(14,3)],[2,3,4,5,6,8,9,10,11]++rg 14 25)],[]⟩
def SW17 (e:Option Addr) (a g:Nat) (R:RT) (w:World):Prop:=
  ∃i:Option Addr->Nat->Nat->Option Addr->Nat->Nat->Int->NP,(∃L,i none 0 0 none 0 0 0 L w)/\∀(S:NV) (j:Option Addr) (k l:Nat) (m:Option Addr) (c n:Nat) (b:Int) (r:Nat) (f:World),i j k l m c n b r f->Br (decide (b < (a:Int))) (∃s,Ix e s b a (∃t,LdV pg 63 (s.add (b.toNat*30)) (t) f/\gNew #[.int .i64 0,.int .u32 0,.int .u32 0,.int .u64 0,.int .u32 0,.int .u32 0,.int .u32 0,.slice none 0 0,.slice none 0 0,.slice none 0 0,.slice none 0 0,.string (ByteArray.mk #[]),.int .u8 0,.slice none 0 0,.slice none 0 0,.slice none 0 0,.slice none 0 0,.int .u32 0,.slice none 0 0,.int .u32 0,.int .u16 0,.int .u16 0,.int .u32 0,.int .u8 0,.slice none 0 0,.slice none 0 0,.bool false,.int .u8 0,.int .u8 0,.int .u16 0] 63 (fun u M=>∃o,StV pg 63 u (t) M o/\∃v,LdV pg 63 u (v) o/\Calls pg 43 #[v] o (fun en N=>∃x y z A p,en=.returned (.tuple #[x,.slice y z A,.bool p])/\gNew #[.int .i64 0,.int .u32 0,.int .u32 0,.int .u64 0,.int .u32 0,.int .u32 0,.int .u32 0,.slice none 0 0,.slice none 0 0,.slice none 0 0,.slice none 0 0,.string (ByteArray.mk #[]),.int .u8 0,.slice none 0 0,.slice none 0 0,.slice none 0 0,.slice none 0 0,.int .u32 0,.slice none 0 0,.int .u32 0,.int .u16 0,.int .u16 0,.int .u32 0,.int .u8 0,.slice none 0 0,.slice none 0 0,.bool false,.int .u8 0,.int .u8 0,.int .u16 0] 63 (fun B O=>∃d,StV pg 63 B (x) O d/\Br (!p) (R (.returned (.tuple #[.slice none 0 0,.slice none 0 0,.bool false])) d) (Br (decide ((c:Int) > 131072)) (R (.returned (.tuple #[.slice none 0 0,.slice none 0 0,.bool false])) d) (∃q,LdV pg 63 B (q) d/\(q.cells).size=30/\gNew (q.cells) 63 (fun P Q=>∃C D E F,(Builtin.append_ #[23,23] 23 #[.slice j k l,.slice (some P) 1 1]).run pg Q=.ok (.slice C D E) F/\∃G H I J,(Builtin.append_ #[22,22] 22 #[.slice m c n,.slice y z A]).run pg F=.ok (.slice G H I) J/\∃K,K < r/\i C D E G H I (i64.wrap (b+1)) K J) d))) N)) f)) (R (.returned (.tuple #[.slice j k l,.slice m c n,.bool (decide ((a:Int) > 0))])) f)
theorem of17 {e a g R w} (h:SW17 e a g R w):Calls pg 17 #[.slice e a g] w R:=
  calls_by H17 _ Tryz.func17 h
def H19:Hints:=⟨[],[(0,[(3,26),(8,3)],[3,5]++rg 8 10)],[]⟩
def SW19 (c:Option Addr) (a e:Nat) (R:RT) (w:World):Prop:=
  ∃f:Option Addr->Nat->Nat->Int->NP,(∃x,f none 0 0 0 x w)/\∀(C:NV) (g:Option Addr) (i j:Nat) (b:Int) (m:Nat) (d:World),f g i j b m d->Br (decide (b < (a:Int))) (∃n,Ix c n b a (∃o,LdV pg 63 (n.add (b.toNat*30)) (o) d/\gNew #[.int .i64 0,.int .u32 0,.int .u32 0,.int .u64 0,.int .u32 0,.int .u32 0,.int .u32 0,.slice none 0 0,.slice none 0 0,.slice none 0 0,.slice none 0 0,.string (ByteArray.mk #[]),.int .u8 0,.slice none 0 0,.slice none 0 0,.slice none 0 0,.slice none 0 0,.int .u32 0,.slice none 0 0,.int .u32 0,.int .u16 0,.int .u16 0,.int .u32 0,.int .u8 0,.slice none 0 0,.slice none 0 0,.bool false,.int .u8 0,.int .u8 0,.int .u16 0] 63 (fun p y=>∃k,StV pg 63 p (o) y k/\∃q,LdV pg 63 p (q) k/\Calls pg 47 #[q] k (fun en z=>∃l,en=.returned (l)/\(l.cells).size=30/\gNew (l.cells) 75 (fun A B=>∃r s t u,(Builtin.append_ #[26,26] 26 #[.slice g i j,.slice (some A) 1 1]).run pg B=.ok (.slice r s t) u/\∃v,v < m/\f r s t (i64.wrap (b+1)) v u) z)) d)) (R (.returned (.slice g i j)) d)
theorem of19 {c a e R w} (h:SW19 c a e R w):Calls pg 19 #[.slice c a e] w R:=
  calls_by H19 _ Tryz.func19 h
def H21:Hints:=⟨[],[],[]⟩
def SW21 (c:Bool) (d:Int) (e:Int) (f:Int) (R:RT) (w:World):Prop:=
  gNew (#[.bool c,.int .u8 d,.int .u8 e,.int .u16 f]) 42 (fun b a=>∃g,a.cell? (b.add 1)=some (.int .u8 g)/\Br (decide (g > 31)) (R (.returned (.tuple #[.slice none 0 0,.bool false])) a) (∃i,a.cell? (b.add 1)=some (.int .u8 i)/\∃j,a.cell? (b.add 0)=some (.bool j)/\Br j (∃k,a.cell? (b.add 2)=some (.int .u8 k)/\gNew #[.int .u8 (ior .u8 (ior .u8 128 i) 32),.int .u8 k] 5 (fun x l=>∃m,l.cell? (b.add 3)=some (.int .u16 m)/\Calls pg 49 #[.slice (some x) 2 2,.int .u16 m] l (fun en y=>∃n o p,en=.returned (.slice n o p)/\R (.returned (.tuple #[.slice n o p,.bool true])) y)) a) (∃q,a.cell? (b.add 2)=some (.int .u8 q)/\gNew #[.int .u8 (ior .u8 128 i),.int .u8 q] 5 (fun z r=>∃s,r.cell? (b.add 3)=some (.int .u16 s)/\Calls pg 49 #[.slice (some z) 2 2,.int .u16 s] r (fun en A=>∃t u v,en=.returned (.slice t u v)/\R (.returned (.tuple #[.slice t u v,.bool true])) A)) a))) w
theorem of21 {c d e f R w} (h:SW21 c d e f R w):Calls pg 21 #[.agg #[.bool c,.int .u8 d,.int .u8 e,.int .u16 f]] w R:=
  calls_by H21 _ Tryz.func21 h
def H23:Hints:=⟨[(3,[0,1,2,4,8,0,32,64,128,0,512,1024,0,4096,8192,18704,65535,131071],196608,ons [1,3,5,7,9,11,13,15,17,19,21,23,25,27,28,31,32,35] .done)],[],[]⟩
def SW23 (d:Option Addr) (a g:Nat) (R:RT) (w:World):Prop:=
  gNew #[.bool false,.int .u8 0,.int .u8 0,.int .u16 0] 42 (fun e b=>Br (decide ((a:Int) < 4)) (∃m,StV pg 42 e (.agg #[.bool false,.int .u8 0,.int .u8 0,.int .u16 0]) b m/\∃q r s t,LdV pg 42 e (.agg #[.bool q,.int .u8 r,.int .u8 s,.int .u16 t]) m/\R (.returned (.tuple #[.agg #[.bool q,.int .u8 r,.int .u8 s,.int .u16 t],.bool false])) m) (∃u,Ix d u 0 a (∃n,b.cell? (u.add ((0:Int).toNat*1))=some (.int .u8 n)/\Br ((ishr .u8 n 6) != 2) (∃o,StV pg 42 e (.agg #[.bool false,.int .u8 0,.int .u8 0,.int .u16 0]) b o/\∃v x y z,LdV pg 42 e (.agg #[.bool v,.int .u8 x,.int .u8 y,.int .u16 z]) o/\R (.returned (.tuple #[.agg #[.bool v,.int .u8 x,.int .u8 y,.int .u16 z],.bool false])) o) (∃i:Option Nat,∃j,Ix d j 0 a (some ((j.add ((0:Int).toNat*1))).block≠i/\(∃c ty f,b.drew.heap[((j.add ((0:Int).toNat*1))).block]?=some (.cells c ty f))/\∃A,b.drew.cell? (j.add ((0:Int).toNat*1))=some (.int .u8 A)/\∃k,Ix d k 0 a (some ((k.add ((0:Int).toNat*1))).block≠i/\(∃c ty f,b.drew.heap[((k.add ((0:Int).toNat*1))).block]?=some (.cells c ty f))/\∃B,b.drew.cell? (k.add ((0:Int).toNat*1))=some (.int .u8 B)/\∃l,Ix d l 1 a (some ((l.add ((1:Int).toNat*1))).block≠i/\(∃c ty f,b.drew.heap[((l.add ((1:Int).toNat*1))).block]?=some (.cells c ty f))/\∃C,b.drew.cell? (l.add ((1:Int).toNat*1))=some (.int .u8 C)/\0<=(2:Int)/\2<=(a:Int)/\Calls pg 53 #[.slice (cutA d 2 g 1) (a - 2) (g - 2)] b.drew (fun en D=>∃E,en=.returned (.int .u16 E)/\b.drew.grownBy D i/\∃p,StV pg 42 e (.agg #[.bool ((iand .u8 A 32) != 0),.int .u8 (iand .u8 B 31),.int .u8 C,.int .u16 E]) D p/\∃F G H I,LdV pg 42 e (.agg #[.bool F,.int .u8 G,.int .u8 H,.int .u16 I]) p/\R (.returned (.tuple #[.agg #[.bool F,.int .u8 G,.int .u8 H,.int .u16 I],.bool true])) p)))))))) w
theorem of23 {d a g R w} (h:SW23 d a g R w):Calls pg 23 #[.slice d a g] w R:=
  calls_by H23 _ Tryz.func23 h
def H29:Hints:=⟨[],[(0,[(5,4),(31,3)],[5,7,8,9]++rg 31 17),(2,[(53,3)],[2,3,4,11]++rg 53 19)],[(3,[],[2,3,4]++rg 12 17)]⟩
def SW29 (d:Option Addr) (a l:Nat) (R:RT) (w:World):Prop:=
  ∃p:NP,(Br ((a:Int) == 0) (R (.returned (.tuple #[.string (ByteArray.mk #[]),.bool false,.bool true])) w) (∃z,Ix d z 0 a (∃q,w.cell? ((z.add ((0:Int).toNat*30)).add 0)=some (.int .i64 q)/\Br (q != 1) (∃A,Ix d A 0 a (∃r,w.cell? ((A.add ((0:Int).toNat*30)).add 0)=some (.int .i64 r)/\Br (r != 2) (R (.returned (.tuple #[.string (ByteArray.mk #[]),.bool false,.bool true])) w) (p 0 w))) (p 0 w))))/\∀(U:NV)  (B:World),p 0 B->∃i:Bool->Int->NP,(∃N,i false 0 N B)/\∀(V:NV) (g:Bool) (b:Int) (m:Nat) (j:World),i g b m j->Br (decide (b < (a:Int))) (∃C,Ix d C b a (∃D,LdV pg 63 (C.add (b.toNat*30)) (D) j/\gNew #[.int .i64 0,.int .u32 0,.int .u32 0,.int .u64 0,.int .u32 0,.int .u32 0,.int .u32 0,.slice none 0 0,.slice none 0 0,.slice none 0 0,.slice none 0 0,.string (ByteArray.mk #[]),.int .u8 0,.slice none 0 0,.slice none 0 0,.slice none 0 0,.slice none 0 0,.int .u32 0,.slice none 0 0,.int .u32 0,.int .u16 0,.int .u16 0,.int .u32 0,.int .u8 0,.slice none 0 0,.slice none 0 0,.bool false,.int .u8 0,.int .u8 0,.int .u16 0] 63 (fun s O=>∃k,StV pg 63 s (D) O k/\∃t,k.cell? (s.add 0)=some (.int .i64 t)/\Br (t == 3) (∃E,LdV pg 63 s (E) k/\Calls pg 69 #[E] k (fun en F=>∃P G,en=.returned (.tuple #[.string P,.bool G])/\Br g (∃c,c < m/\i true (i64.wrap (b+1)) c F) (∃c,c < m/\i G (i64.wrap (b+1)) c F))) (∃c,c < m/\i g (i64.wrap (b+1)) c k)) j)) (Br (!g) (R (.returned (.tuple #[.string (ByteArray.mk #[]),.bool false,.bool true])) j) (0<=(1:Int)/\1<=(a:Int)/\∃u:Int->NP,(∃Q,u 0 Q j)/\∀(W:NV) (e:Int) (H:Nat) (n:World),u e H n->Br (decide (e < ((a - 1:Nat):Int))) (∃I,cutA d 1 l 30=some I/\0<=e/\e < ((a - 1:Nat):Int)/\∃J,LdV pg 63 (I.add (e.toNat*30)) (J) n/\gNew #[.int .i64 0,.int .u32 0,.int .u32 0,.int .u64 0,.int .u32 0,.int .u32 0,.int .u32 0,.slice none 0 0,.slice none 0 0,.slice none 0 0,.slice none 0 0,.string (ByteArray.mk #[]),.int .u8 0,.slice none 0 0,.slice none 0 0,.slice none 0 0,.slice none 0 0,.int .u32 0,.slice none 0 0,.int .u32 0,.int .u16 0,.int .u16 0,.int .u32 0,.int .u8 0,.slice none 0 0,.slice none 0 0,.bool false,.int .u8 0,.int .u8 0,.int .u16 0] 63 (fun o S=>∃f,StV pg 63 o (J) S f/\∃v,f.cell? (o.add 0)=some (.int .i64 v)/\Br (v == 2) (∃K,K < H/\u (i64.wrap (e+1)) K f) (∃x,f.cell? (o.add 0)=some (.int .i64 x)/\Br (x != 3) (R (.returned (.tuple #[.string (ByteArray.mk #[]),.bool false,.bool false])) f) (∃L,LdV pg 63 o (L) f/\Calls pg 69 #[L] f (fun en T=>∃M y,en=.returned (.tuple #[.string M,.bool y])/\R (.returned (.tuple #[.string M,.bool y,.bool y])) T)))) n) (R (.returned (.tuple #[.string (ByteArray.mk #[]),.bool false,.bool false])) n)))
theorem of29 {d a l R w} (h:SW29 d a l R w):Calls pg 29 #[.slice d a l] w R:=
  calls_by H29 _ Tryz.func29 h
def H30:Hints:=⟨[],[],[]⟩
def SW30 (b:Option Addr) (c d:Nat) (R:RT) (w:World):Prop:=
  gNew (#[.slice b c d]) 26 (fun m n=>gNew #[.string (ByteArray.mk #[])] 9 (fun a o=>Calls pg 34 #[.func (.func 70) #[] #[.pointer (some m),.pointer (some a)]] o (fun en e=>∃f,en=.returned (.bool f)/\Br (!f) (∃g,StV pg 9 a (.string (ByteArray.mk #[])) e g/\∃j,g.cell? a=some (.string j)/\R (.returned (.tuple #[.string j,.bool false])) g) (∃k,e.cell? a=some (.string k)/\∃i,StV pg 9 a (.string k) e i/\∃l,i.cell? a=some (.string l)/\R (.returned (.tuple #[.string l,.bool true])) i))) n) w
theorem of30 {b c d R w} (h:SW30 b c d R w):Calls pg 30 #[.slice b c d] w R:=
  calls_by H30 _ Tryz.func30 h
def H31:Hints:=⟨[],[],[]⟩
def SW31 (b:Option Addr) (c d:Nat) (R:RT) (w:World):Prop:=
  gNew (#[.slice b c d]) 26 (fun s t=>gNew #[.slice none 0 0] 22 (fun a u=>Calls pg 34 #[.func (.func 72) #[] #[.pointer (some s),.pointer (some a)]] u (fun en e=>∃f,en=.returned (.bool f)/\Br (!f) (∃g,StV pg 22 a (.slice none 0 0) e g/\∃j k l,g.cell? a=some (.slice j k l)/\R (.returned (.tuple #[.slice j k l,.bool false])) g) (∃m n o,e.cell? a=some (.slice m n o)/\∃i,StV pg 22 a (.slice m n o) e i/\∃p q r,i.cell? a=some (.slice p q r)/\R (.returned (.tuple #[.slice p q r,.bool true])) i))) t) w
theorem of31 {b c d R w} (h:SW31 b c d R w):Calls pg 31 #[.slice b c d] w R:=
  calls_by H31 _ Tryz.func31 h
def H32:Hints:=⟨[],[],[]⟩
def SW32 (b:Option Addr) (c d:Nat) (R:RT) (w:World):Prop:=
  gNew (#[.slice b c d]) 22 (fun s t=>gNew #[.slice none 0 0] 26 (fun a u=>Calls pg 34 #[.func (.func 74) #[] #[.pointer (some s),.pointer (some a)]] u (fun en e=>∃f,en=.returned (.bool f)/\Br (!f) (∃g,StV pg 26 a (.slice none 0 0) e g/\∃j k l,g.cell? a=some (.slice j k l)/\R (.returned (.tuple #[.slice j k l,.bool false])) g) (∃m n o,e.cell? a=some (.slice m n o)/\∃i,StV pg 26 a (.slice m n o) e i/\∃p q r,i.cell? a=some (.slice p q r)/\R (.returned (.tuple #[.slice p q r,.bool true])) i))) t) w
theorem of32 {b c d R w} (h:SW32 b c d R w):Calls pg 32 #[.slice b c d] w R:=
  calls_by H32 _ Tryz.func32 h
def H33:Hints:=⟨[],[],[]⟩
def SW33 (a:Option Addr) (b c:Nat) (R:RT) (w:World):Prop:=
  gNew (#[.slice a b c]) 26 (fun e f=>Calls pg 34 #[.func (.func 76) #[] #[.pointer (some e)]] f (fun en g=>∃d,en=.returned (.bool d)/\R (.returned (.bool d)) g)) w
theorem of33 {a b c R w} (h:SW33 a b c R w):Calls pg 33 #[.slice a b c] w R:=
  calls_by H33 _ Tryz.func33 h
def H35:Hints:=⟨[],[],[]⟩
def SW35 (a:Addr) (b:Addr) (R:RT) (w:World):Prop:=
  ∃d e f,w.cell? a=some (.slice d e f)/\Calls pg 37 #[.slice d e f] w (fun en r=>∃g i j,en=.returned (.slice g i j)/\Calls pg 36 #[.slice g i j] r (fun en s=>∃k l m c,en=.returned (.tuple #[.slice k l m,c])/\Calls pg 38 #[.slice k l m] s (fun en t=>∃n o p,en=.returned (.slice n o p)/\∃q,StV pg 26 b (.slice n o p) t q/\isIf c/\R (.returned (.bool (isNilI c))) q)))
theorem of35 {a b R w} (h:SW35 a b R w):Calls pg 35 #[.pointer (some a),.pointer (some b)] w R:=
  calls_by H35 _ Tryz.func35 h
def H36:Hints:=⟨[(11,[0,0,3],7,ons [3,0,5] .done)],[(0,[(0,22),(4,88)],[0]++rg 2 25)],[]⟩
def SW36 (f:Option Addr) (g i:Nat) (R:RT) (w:World):Prop:=
  ∃k:Option Addr->Nat->Nat->Option Addr->Nat->Nat->NP,(∃y,k f g i none 0 0 y w)/\∀(B:NV) (l:Option Addr) (a j:Nat) (m:Option Addr) (c n:Nat) (p:Nat) (d:World),k l a j m c n p d->Br ((a:Int) != 0) (Calls pg 79 #[.slice l a j] d (fun en q=>∃o b e,en=.returned (.tuple #[o,.int .i64 b,e])/\isIf e/\Br (!(isNilI e)) (R (.returned (.tuple #[.slice none 0 0,e])) q) ((o.cells).size=1/\gNew (o.cells) 123 (fun z A=>∃r s t u,(Builtin.append_ #[88,88] 88 #[.slice m c n,.slice (some z) 1 1]).run pg A=.ok (.slice r s t) u/\0<=b/\b<=(a:Int)/\∃v,v < p/\k (cutA l b.toNat j 1) (a - b.toNat) (j - b.toNat) r s t v u) q))) (Br ((c:Int) == 0) (∃x,d.drew.cell? (⟨0,0,none⟩)=some (x)/\R (.returned (.tuple #[.slice none 0 0,x])) d.drew) (R (.returned (.tuple #[.slice m c n,.nilIface])) d))
theorem of36 {f g i R w} (h:SW36 f g i R w):Calls pg 36 #[.slice f g i] w R:=
  calls_by H36 _ Tryz.func36 h
def H37:Hints:=⟨[],[],[]⟩
def SW37 (a:Option Addr) (b c:Nat) (R:RT) (w:World):Prop:=
  (a.isNone=true->R (.returned (.slice none 0 0)) w)/\(a.isNone=false->gNew #[] 5 (fun i j=>∃d e f g,(Builtin.append_ #[22,22] 22 #[.slice (some i) 0 0,.slice a b c]).run pg j=.ok (.slice d e f) g/\R (.returned (.slice d e f)) g) w)
theorem of37 {a b c R w} (h:SW37 a b c R w):Calls pg 37 #[.slice a b c] w R:=
  calls_by H37 _ Tryz.func37 h
def H38:Hints:=⟨[],[(0,[(3,26),(10,3)],[3,5,6,7]++rg 10 22)],[]⟩
def SW38 (e:Option Addr) (b k:Nat) (R:RT) (w:World):Prop:=
  ∃f:Option Addr->Nat->Nat->Int->NP,(∃H,f none 0 0 0 H w)/\∀(M:NV) (g:Option Addr) (i j:Nat) (a:Int) (l:Nat) (c:World),f g i j a l c->Br (decide (a < (b:Int))) (∃p,Ix e p a b (∃m,c.cell? (p.add (a.toNat*1))=some (m)/\∃q:Option Addr,∃n:Bool,(∀wx,(Instr.typeAssert m 123 137 true).run pg wx=.ok (.tuple #[.pointer q,.bool n]) wx)/\Br n (∃r,q=some r/\∃s t u,c.cell? r=some (.slice s t u)/\Calls pg 38 #[.slice s t u] c (fun en I=>∃v x y,en=.returned (.slice v x y)/\∃z A B C,(Builtin.append_ #[26,26] 26 #[.slice g i j,.slice v x y]).run pg I=.ok (.slice z A B) C/\∃d,d < l/\f z A B (i64.wrap (a+1)) d C)) (Calls pg 66 #[m] c (fun en J=>∃o,en=.returned (o)/\(o.cells).size=30/\gNew (o.cells) 75 (fun K L=>∃D E F G,(Builtin.append_ #[26,26] 26 #[.slice g i j,.slice (some K) 1 1]).run pg L=.ok (.slice D E F) G/\∃d,d < l/\f D E F (i64.wrap (a+1)) d G) J)))) (R (.returned (.slice g i j)) c)
theorem of38 {e b k R w} (h:SW38 e b k R w):Calls pg 38 #[.slice e b k] w R:=
  calls_by H38 _ Tryz.func38 h
def H39:Hints:=⟨[],[],[]⟩
def SW39 (b:Value) (R:RT) (w:World):Prop:=
  gNew (b.cells) 75 (fun q r=>gNew #[.slice none 0 0] 22 (fun a s=>Calls pg 34 #[.func (.func 80) #[] #[.pointer (some q),.pointer (some a)]] s (fun en c=>∃d,en=.returned (.bool d)/\Br (!d) (∃e,StV pg 22 a (.slice none 0 0) c e/\∃g i j,e.cell? a=some (.slice g i j)/\R (.returned (.tuple #[.slice g i j,.bool false])) e) (∃k l m,c.cell? a=some (.slice k l m)/\∃f,StV pg 22 a (.slice k l m) c f/\∃n o p,f.cell? a=some (.slice n o p)/\R (.returned (.tuple #[.slice n o p,.bool true])) f))) r) w
theorem of39 {b R w} (h:SW39 b R w):Calls pg 39 #[b] w R:=
  calls_by H39 _ Tryz.func39 h
def H40:Hints:=⟨[(59,[0,0,0,4,10,0,32,64,0,256,512,1168,2065],4096,ons [1,3,5,7,11,13,15,17,19,21,8,22,24] .done),(66,[0,0,0,4,10,0,32,64,0,256,512,0,2048,4096,0,16384,32768,65536,140432,262161],524288,ons [1,3,5,7,11,13,15,17,19,21,23,25,27,29,31,33,35,8,36,38] .done)],[(0,[(63,3)],[8]++rg 63 29),(2,[(107,3)],[10,12]++rg 107 33),(4,[(124,3)],[12]++rg 124 15),(6,[(150,3)],[14]++rg 150 10),(8,[(185,3)],[16]++rg 185 14),(10,[(209,3)],[18]++rg 209 17),(12,[(236,3)],[20]++rg 236 14),(14,[(263,3)],[22,24]++rg 263 39),(16,[(283,3)],[24]++rg 283 18),(18,[(327,3)],[26,28]++rg 327 38),(20,[(354,3)],[28]++rg 354 10),(22,[(375,3)],[30]++rg 375 14)],[(11,[],[8]++rg 60 32),(24,[],[10,12]++rg 104 36),(30,[],[14]++rg 147 13),(39,[],[16]++rg 182 17),(45,[],[18]++rg 206 20),(51,[],[20]++rg 233 17),(62,[],[22,24]++rg 260 42),(73,[],[26,28]++rg 324 41),(79,[],[30]++rg 372 17)]⟩
def SW40 (L:Value) (R:RT) (w:World):Prop:=
  gNew (L.cells) 63 (fun a e5=>gNew #[.slice none 0 0] 22 (fun m e6=>gNew #[.nilFunc] 140 (fun b e7=>∃f,StV pg 140 b (.func (.func 81) #[] #[.pointer (some m)]) e7 f/\∃(a0:FuncId) (a1 a2:Array Value),f.cell? b=some (.func (.func a0) a1 a2)/\∃x9,f.cell? (a.add 0)=some (.int .i64 x9)/\∃a4,f.cell? (a.add 1)=some (.int .u32 a4)/\∃a5,f.cell? (a.add 2)=some (.int .u32 a5)/\∃a6,f.cell? (a.add 3)=some (.int .u64 a6)/\∃a7,f.cell? (a.add 4)=some (.int .u32 a7)/\∃a8,f.cell? (a.add 5)=some (.int .u32 a8)/\∃a9,f.cell? (a.add 6)=some (.int .u32 a9)/\∃e8 ba e9,f.cell? (a.add 7)=some (.slice e8 ba e9)/\gNew #[.int .u64 (u64.wrap x9),.int .u64 (u64.wrap a4),.int .u64 (u64.wrap a5),.int .u64 a6,.int .u64 (u64.wrap a7),.int .u64 (u64.wrap a8),.int .u64 (u64.wrap a9),.int .u64 (u64.wrap (ba:Int))] 52 (fun fa fb=>fnVc pg a0 (a1++#[.slice (some fa) 8 8]++a2) 0 (fun gX bb=>∃bc:NP,(∃bd M fc,bb.cell? (a.add 7)=some (.slice bd M fc)/\∃aq:Int->NP,(∃fd,aq 0 fd bb)/\∀(gY:NV) (n:Int) (be:Nat) (N:World),aq n be N->Br (decide (n < (M:Int))) (∃bf,Ix bd bf n M (∃bg bh bi bj bk bl bm,LdV pg 144 (bf.add (n.toNat*7)) (.agg #[.int .u32 bg,.int .u8 bh,.int .u32 bi,.int .u32 bj,.int .u32 bk,.int .u32 bl,.int .u32 bm]) N/\gNew #[.int .u32 0,.int .u8 0,.int .u32 0,.int .u32 0,.int .u32 0,.int .u32 0,.int .u32 0] 144 (fun j fe=>∃g,StV pg 144 j (.agg #[.int .u32 bg,.int .u8 bh,.int .u32 bi,.int .u32 bj,.int .u32 bk,.int .u32 bl,.int .u32 bm]) fe g/\∃(bn:FuncId) (bo bp:Array Value),g.cell? b=some (.func (.func bn) bo bp)/\∃bq,g.cell? (j.add 0)=some (.int .u32 bq)/\∃br,g.cell? (j.add 1)=some (.int .u8 br)/\∃bs,g.cell? (j.add 2)=some (.int .u32 bs)/\∃bt,g.cell? (j.add 3)=some (.int .u32 bt)/\∃bu,g.cell? (j.add 4)=some (.int .u32 bu)/\∃bv,g.cell? (j.add 5)=some (.int .u32 bv)/\∃bx,g.cell? (j.add 6)=some (.int .u32 bx)/\gNew #[.int .u64 (u64.wrap bq),.int .u64 (u64.wrap br),.int .u64 (u64.wrap bs),.int .u64 (u64.wrap bt),.int .u64 (u64.wrap bu),.int .u64 (u64.wrap bv),.int .u64 (u64.wrap bx)] 52 (fun ff fg=>fnVc pg bn (bo++#[.slice (some ff) 7 7]++bp) 0 (fun gZ fh=>∃bz,bz < be/\aq (i64.wrap (n+1)) bz fh) fg) g) N)) (bc 0 N))/\∀(g0:NV)  (ar:World),bc 0 ar->∃bA bB bC,ar.cell? (a.add 8)=some (.slice bA bB bC)/\∃bD bE,(convert 22 9 (.slice bA bB bC)).run pg ar=.ok (.string bD) bE/\Calls pg 82 #[.string bD,.pointer (some b),.pointer (some m)] bE (fun en au=>en=.returned (.tuple #[])/\∃(bF:FuncId) (bG bH:Array Value),au.cell? b=some (.func (.func bF) bG bH)/\∃fi av fj,au.cell? (a.add 9)=some (.slice fi av fj)/\((.int .u64 (u64.wrap (av:Int)):Value).cells).size=1/\gNew (#[.int .u64 (u64.wrap (av:Int))]) 52 (fun fk fl=>fnVc pg bF (bG++#[.slice (some fk) 1 1]++bH) 0 (fun g1 bI=>∃bJ:NP,(∃bK O fm,bI.cell? (a.add 9)=some (.slice bK O fm)/\∃ax:Int->NP,(∃fn,ax 0 fn bI)/\∀(g2:NV) (o:Int) (bL:Nat) (P:World),ax o bL P->Br (decide (o < (O:Int))) (∃bM,Ix bK bM o O (∃bN bO bP bQ,LdV pg 147 (bM.add (o.toNat*2)) (.agg #[.int .u32 bN,.slice bO bP bQ]) P/\gNew #[.int .u32 0,.slice none 0 0] 147 (fun Q fo=>∃D,StV pg 147 Q (.agg #[.int .u32 bN,.slice bO bP bQ]) fo D/\∃(bS:FuncId) (bT bU:Array Value),D.cell? b=some (.func (.func bS) bT bU)/\∃bV,D.cell? (Q.add 0)=some (.int .u32 bV)/\∃fp bW fq,D.cell? (Q.add 1)=some (.slice fp bW fq)/\gNew #[.int .u64 (u64.wrap bV),.int .u64 (u64.wrap (bW:Int))] 52 (fun fr fs=>fnVc pg bS (bT++#[.slice (some fr) 2 2]++bU) 0 (fun g3 bX=>∃bY S ft,bX.cell? (Q.add 1)=some (.slice bY S ft)/\∃ay:Int->NP,(∃fu,ay 0 fu bX)/\∀(g4:NV) (p:Int) (bZ:Nat) (T:World),ay p bZ T->Br (decide (p < (S:Int))) (∃b0,Ix bY b0 p S (∃b1 b2,LdV pg 149 (b0.add (p.toNat*2)) (.agg #[.int .u8 b1,.string b2]) T/\gNew #[.int .u8 0,.string (ByteArray.mk #[])] 149 (fun az fv=>∃U,StV pg 149 az (.agg #[.int .u8 b1,.string b2]) fv U/\∃(b3:FuncId) (b4 b5:Array Value),U.cell? b=some (.func (.func b3) b4 b5)/\∃aA,U.cell? (az.add 0)=some (.int .u8 aA)/\((.int .u64 (u64.wrap aA):Value).cells).size=1/\gNew (#[.int .u64 (u64.wrap aA)]) 52 (fun fx fy=>fnVc pg b3 (b4++#[.slice (some fx) 1 1]++b5) 0 (fun g5 b6=>∃b7,b6.cell? (az.add 1)=some (.string b7)/\Calls pg 82 #[.string b7,.pointer (some b),.pointer (some m)] b6 (fun en fz=>en=.returned (.tuple #[])/\∃b8,b8 < bZ/\ay (i64.wrap (p+1)) b8 fz)) fy) U) T)) (∃b9,b9 < bL/\ax (i64.wrap (o+1)) b9 T)) fs) D) P)) (bJ 0 P))/\∀(g6:NV)  (V:World),bJ 0 V->∃(ca:FuncId) (cb cc:Array Value),V.cell? b=some (.func (.func ca) cb cc)/\∃fA aB fB,V.cell? (a.add 10)=some (.slice fA aB fB)/\((.int .u64 (u64.wrap (aB:Int)):Value).cells).size=1/\gNew (#[.int .u64 (u64.wrap (aB:Int))]) 52 (fun fC fD=>fnVc pg ca (cb++#[.slice (some fC) 1 1]++cc) 0 (fun g7 cd=>∃ce:NP,(∃cf W fE,cd.cell? (a.add 10)=some (.slice cf W fE)/\∃aC:Int->NP,(∃fF,aC 0 fF cd)/\∀(g8:NV) (q:Int) (cg:Nat) (E:World),aC q cg E->Br (decide (q < (W:Int))) (∃ch,Ix cf ch q W (∃aD,E.cell? (ch.add (q.toNat*1))=some (.int .u32 aD)/\∃(ci:FuncId) (cj ck:Array Value),E.cell? b=some (.func (.func ci) cj ck)/\((.int .u64 (u64.wrap aD):Value).cells).size=1/\gNew (#[.int .u64 (u64.wrap aD)]) 52 (fun fG fH=>fnVc pg ci (cj++#[.slice (some fG) 1 1]++ck) 0 (fun g9 fI=>∃cl,cl < cg/\aC (i64.wrap (q+1)) cl fI) fH) E)) (ce 0 E))/\∀(ha:NV)  (aE:World),ce 0 aE->∃cm,aE.cell? (a.add 11)=some (.string cm)/\Calls pg 82 #[.string cm,.pointer (some b),.pointer (some m)] aE (fun en aF=>en=.returned (.tuple #[])/\∃(cn:FuncId) (co cp:Array Value),aF.cell? b=some (.func (.func cn) co cp)/\∃aG,aF.cell? (a.add 12)=some (.int .u8 aG)/\((.int .u64 (u64.wrap aG):Value).cells).size=1/\gNew (#[.int .u64 (u64.wrap aG)]) 52 (fun fJ fK=>fnVc pg cn (co++#[.slice (some fJ) 1 1]++cp) 0 (fun hb cq=>∃cr cs ct,cq.cell? (a.add 13)=some (.slice cr cs ct)/\∃cu cv,(convert 22 9 (.slice cr cs ct)).run pg cq=.ok (.string cu) cv/\Calls pg 82 #[.string cu,.pointer (some b),.pointer (some m)] cv (fun en aH=>en=.returned (.tuple #[])/\∃(cx:FuncId) (cy cz:Array Value),aH.cell? b=some (.func (.func cx) cy cz)/\∃fL aI fM,aH.cell? (a.add 14)=some (.slice fL aI fM)/\((.int .u64 (u64.wrap (aI:Int)):Value).cells).size=1/\gNew (#[.int .u64 (u64.wrap (aI:Int))]) 52 (fun fN fO=>fnVc pg cx (cy++#[.slice (some fN) 1 1]++cz) 0 (fun hc cA=>∃cB:NP,(∃cC X fP,cA.cell? (a.add 14)=some (.slice cC X fP)/\∃aJ:Int->NP,(∃fQ,aJ 0 fQ cA)/\∀(hd:NV) (r:Int) (cD:Nat) (Y:World),aJ r cD Y->Br (decide (r < (X:Int))) (∃cE,Ix cC cE r X (∃cF cG,LdV pg 151 (cE.add (r.toNat*2)) (.agg #[.int .u16 cF,.int .u16 cG]) Y/\gNew #[.int .u16 0,.int .u16 0] 151 (fun aK fS=>∃F,StV pg 151 aK (.agg #[.int .u16 cF,.int .u16 cG]) fS F/\∃(cH:FuncId) (cI cJ:Array Value),F.cell? b=some (.func (.func cH) cI cJ)/\∃cK,F.cell? (aK.add 0)=some (.int .u16 cK)/\∃cL,F.cell? (aK.add 1)=some (.int .u16 cL)/\gNew #[.int .u64 (u64.wrap cK),.int .u64 (u64.wrap cL)] 52 (fun fT fU=>fnVc pg cH (cI++#[.slice (some fT) 2 2]++cJ) 0 (fun he fV=>∃cM,cM < cD/\aJ (i64.wrap (r+1)) cM fV) fU) F) Y)) (cB 0 Y))/\∀(hf:NV)  (Z:World),cB 0 Z->∃(cN:FuncId) (cO cP:Array Value),Z.cell? b=some (.func (.func cN) cO cP)/\∃fW aL fX,Z.cell? (a.add 15)=some (.slice fW aL fX)/\((.int .u64 (u64.wrap (aL:Int)):Value).cells).size=1/\gNew (#[.int .u64 (u64.wrap (aL:Int))]) 52 (fun fY fZ=>fnVc pg cN (cO++#[.slice (some fY) 1 1]++cP) 0 (fun hg cQ=>∃cS:NP,(∃cT aa f0,cQ.cell? (a.add 15)=some (.slice cT aa f0)/\∃aM:Int->NP,(∃f1,aM 0 f1 cQ)/\∀(hh:NV) (s:Int) (cU:Nat) (ab:World),aM s cU ab->Br (decide (s < (aa:Int))) (∃cV,Ix cT cV s aa (∃cW cX cY,LdV pg 153 (cV.add (s.toNat*3)) (.agg #[.int .u16 cW,.int .u16 cX,.int .u8 cY]) ab/\gNew #[.int .u16 0,.int .u16 0,.int .u8 0] 153 (fun ac f2=>∃t,StV pg 153 ac (.agg #[.int .u16 cW,.int .u16 cX,.int .u8 cY]) f2 t/\∃(cZ:FuncId) (c0 c1:Array Value),t.cell? b=some (.func (.func cZ) c0 c1)/\∃c2,t.cell? (ac.add 0)=some (.int .u16 c2)/\∃c3,t.cell? (ac.add 1)=some (.int .u16 c3)/\∃c4,t.cell? (ac.add 2)=some (.int .u8 c4)/\gNew #[.int .u64 (u64.wrap c2),.int .u64 (u64.wrap c3),.int .u64 (u64.wrap c4)] 52 (fun f3 f4=>fnVc pg cZ (c0++#[.slice (some f3) 3 3]++c1) 0 (fun hi f5=>∃c5,c5 < cU/\aM (i64.wrap (s+1)) c5 f5) f4) t) ab)) (cS 0 ab))/\∀(hj:NV)  (ad:World),cS 0 ad->∃(c6:FuncId) (c7 c8:Array Value),ad.cell? b=some (.func (.func c6) c7 c8)/\∃f6 aN f7,ad.cell? (a.add 16)=some (.slice f6 aN f7)/\((.int .u64 (u64.wrap (aN:Int)):Value).cells).size=1/\gNew (#[.int .u64 (u64.wrap (aN:Int))]) 52 (fun f8 f9=>fnVc pg c6 (c7++#[.slice (some f8) 1 1]++c8) 0 (fun hk c9=>∃da:NP,(∃db ae ga,c9.cell? (a.add 16)=some (.slice db ae ga)/\∃aO:Int->NP,(∃gb,aO 0 gb c9)/\∀(hl:NV) (u:Int) (dc:Nat) (af:World),aO u dc af->Br (decide (u < (ae:Int))) (∃dd,Ix db dd u ae (∃de df,LdV pg 155 (dd.add (u.toNat*2)) (.agg #[.int .u32 de,.int .u8 df]) af/\gNew #[.int .u32 0,.int .u8 0] 155 (fun aP gc=>∃G,StV pg 155 aP (.agg #[.int .u32 de,.int .u8 df]) gc G/\∃(dg:FuncId) (dh di:Array Value),G.cell? b=some (.func (.func dg) dh di)/\∃dj,G.cell? (aP.add 0)=some (.int .u32 dj)/\∃dk,G.cell? (aP.add 1)=some (.int .u8 dk)/\gNew #[.int .u64 (u64.wrap dj),.int .u64 (u64.wrap dk)] 52 (fun gd ge=>fnVc pg dg (dh++#[.slice (some gd) 2 2]++di) 0 (fun hm gf=>∃dl,dl < dc/\aO (i64.wrap (u+1)) dl gf) ge) G) af)) (da 0 af))/\∀(hn:NV)  (H:World),da 0 H->∃(dm:FuncId) (dn dp:Array Value),H.cell? b=some (.func (.func dm) dn dp)/\∃dq,H.cell? (a.add 17)=some (.int .u32 dq)/\∃gg dr gh,H.cell? (a.add 18)=some (.slice gg dr gh)/\gNew #[.int .u64 (u64.wrap dq),.int .u64 (u64.wrap (dr:Int))] 52 (fun gi gj=>fnVc pg dm (dn++#[.slice (some gi) 2 2]++dp) 0 (fun ho ds=>∃dt:NP,(∃du ag gk,ds.cell? (a.add 18)=some (.slice du ag gk)/\∃aQ:Int->NP,(∃gl,aQ 0 gl ds)/\∀(hp:NV) (v:Int) (dv:Nat) (ah:World),aQ v dv ah->Br (decide (v < (ag:Int))) (∃dx,Ix du dx v ag (∃dy dz dA dB dC,LdV pg 158 (dx.add (v.toNat*3)) (.agg #[.int .u32 dy,.int .u16 dz,.slice dA dB dC]) ah/\gNew #[.int .u32 0,.int .u16 0,.slice none 0 0] 158 (fun I gm=>∃x,StV pg 158 I (.agg #[.int .u32 dy,.int .u16 dz,.slice dA dB dC]) gm x/\∃(dD:FuncId) (dE dF:Array Value),x.cell? b=some (.func (.func dD) dE dF)/\∃dG,x.cell? (I.add 0)=some (.int .u32 dG)/\∃dH,x.cell? (I.add 1)=some (.int .u16 dH)/\∃gn dI go,x.cell? (I.add 2)=some (.slice gn dI go)/\gNew #[.int .u64 (u64.wrap dG),.int .u64 (u64.wrap dH),.int .u64 (u64.wrap (dI:Int))] 52 (fun gp gq=>fnVc pg dD (dE++#[.slice (some gp) 3 3]++dF) 0 (fun hq dJ=>∃dK ai gr,dJ.cell? (I.add 2)=some (.slice dK ai gr)/\∃aS:Int->NP,(∃gs,aS 0 gs dJ)/\∀(hr:NV) (y:Int) (dL:Nat) (aj:World),aS y dL aj->Br (decide (y < (ai:Int))) (∃dM,Ix dK dM y ai (∃dN dO dP,LdV pg 160 (dM.add (y.toNat*3)) (.agg #[.bool dN,.int .u8 dO,.int .u16 dP]) aj/\gNew #[.bool false,.int .u8 0,.int .u16 0] 160 (fun l gt=>∃d,StV pg 160 l (.agg #[.bool dN,.int .u8 dO,.int .u16 dP]) gt d/\∃z:Option Nat,Rk b z d.drew (∃(dQ:FuncId) (dS dT:Array Value),d.drew.cell? b=some (.func (.func dQ) dS dT)/\Rk ((l.add 0)) z d.drew (∃dU,d.drew.cell? (l.add 0)=some (.bool dU)/\Rk ((l.add 1)) z d.drew (∃dV,d.drew.cell? (l.add 1)=some (.int .u8 dV)/\Rk ((l.add 2)) z d.drew (∃dW,d.drew.cell? (l.add 2)=some (.int .u16 dW)/\Calls pg 83 #[.bool dU] d.drew (fun en dX=>∃dY,en=.returned (.int .u64 dY)/\d.drew.grownBy dX z/\gNew #[.int .u64 dY,.int .u64 (u64.wrap dV),.int .u64 (u64.wrap dW)] 52 (fun gu dZ=>d.drew.grownBy dZ z/\fnVc pg dQ (dS++#[.slice (some gu) 3 3]++dT) 0 (fun hs gv=>∃d0,d0 < dL/\aS (i64.wrap (y+1)) d0 gv) dZ) dX)))))) aj)) (∃d1,d1 < dv/\aQ (i64.wrap (v+1)) d1 aj)) gq) x) ah)) (dt 0 ah))/\∀(ht:NV)  (i:World),dt 0 i->∃(d2:FuncId) (d3 d4:Array Value),i.cell? b=some (.func (.func d2) d3 d4)/\∃d5,i.cell? (a.add 19)=some (.int .u32 d5)/\∃d6,i.cell? (a.add 20)=some (.int .u16 d6)/\∃d7,i.cell? (a.add 21)=some (.int .u16 d7)/\∃d8,i.cell? (a.add 22)=some (.int .u32 d8)/\∃d9,i.cell? (a.add 23)=some (.int .u8 d9)/\∃gx ea gy,i.cell? (a.add 24)=some (.slice gx ea gy)/\gNew #[.int .u64 (u64.wrap d5),.int .u64 (u64.wrap d6),.int .u64 (u64.wrap d7),.int .u64 (u64.wrap d8),.int .u64 (u64.wrap d9),.int .u64 (u64.wrap (ea:Int))] 52 (fun gz gA=>fnVc pg d2 (d3++#[.slice (some gz) 6 6]++d4) 0 (fun hu eb=>∃ec:NP,(∃ed ak gB,eb.cell? (a.add 24)=some (.slice ed ak gB)/\∃aT:Int->NP,(∃gC,aT 0 gC eb)/\∀(hv:NV) (A:Int) (ee:Nat) (al:World),aT A ee al->Br (decide (A < (ak:Int))) (∃ef,Ix ed ef A ak (∃eg eh ei ej ek el em,LdV pg 163 (ef.add (A.toNat*5)) (.agg #[.bool eg,.int .u16 eh,.int .u16 ei,.int .u16 ej,.slice ek el em]) al/\gNew #[.bool false,.int .u16 0,.int .u16 0,.int .u16 0,.slice none 0 0] 163 (fun e gD=>∃c,StV pg 163 e (.agg #[.bool eg,.int .u16 eh,.int .u16 ei,.int .u16 ej,.slice ek el em]) gD c/\∃k:Option Nat,Rk b k c.drew (∃(eo:FuncId) (ep eq:Array Value),c.drew.cell? b=some (.func (.func eo) ep eq)/\Rk ((e.add 0)) k c.drew (∃er,c.drew.cell? (e.add 0)=some (.bool er)/\Rk ((e.add 1)) k c.drew (∃es,c.drew.cell? (e.add 1)=some (.int .u16 es)/\Rk ((e.add 2)) k c.drew (∃et,c.drew.cell? (e.add 2)=some (.int .u16 et)/\Rk ((e.add 3)) k c.drew (∃eu,c.drew.cell? (e.add 3)=some (.int .u16 eu)/\Rk ((e.add 4)) k c.drew (∃gE ev gF,c.drew.cell? (e.add 4)=some (.slice gE ev gF)/\Calls pg 83 #[.bool er] c.drew (fun en ex=>∃ey,en=.returned (.int .u64 ey)/\c.drew.grownBy ex k/\gNew #[.int .u64 ey,.int .u64 (u64.wrap es),.int .u64 (u64.wrap et),.int .u64 (u64.wrap eu),.int .u64 (u64.wrap (ev:Int))] 52 (fun gG ez=>c.drew.grownBy ez k/\fnVc pg eo (ep++#[.slice (some gG) 5 5]++eq) 0 (fun hx eA=>∃eB am gH,eA.cell? (e.add 4)=some (.slice eB am gH)/\∃aU:Int->NP,(∃gI,aU 0 gI eA)/\∀(hy:NV) (B:Int) (eC:Nat) (J:World),aU B eC J->Br (decide (B < (am:Int))) (∃eD,Ix eB eD B am (∃aV,J.cell? (eD.add (B.toNat*1))=some (.int .u16 aV)/\∃(eE:FuncId) (eF eG:Array Value),J.cell? b=some (.func (.func eE) eF eG)/\((.int .u64 (u64.wrap aV):Value).cells).size=1/\gNew (#[.int .u64 (u64.wrap aV)]) 52 (fun gJ gK=>fnVc pg eE (eF++#[.slice (some gJ) 1 1]++eG) 0 (fun hz gL=>∃eH,eH < eC/\aU (i64.wrap (B+1)) eH gL) gK) J)) (∃eI,eI < ee/\aT (i64.wrap (A+1)) eI J)) ez) ex)))))))) al)) (ec 0 al))/\∀(hA:NV)  (an:World),ec 0 an->∃(eJ:FuncId) (eK eL:Array Value),an.cell? b=some (.func (.func eJ) eK eL)/\∃gM aW gN,an.cell? (a.add 25)=some (.slice gM aW gN)/\((.int .u64 (u64.wrap (aW:Int)):Value).cells).size=1/\gNew (#[.int .u64 (u64.wrap (aW:Int))]) 52 (fun gO gP=>fnVc pg eJ (eK++#[.slice (some gO) 1 1]++eL) 0 (fun hB eM=>∃eN:NP,(∃eO ao gQ,eM.cell? (a.add 25)=some (.slice eO ao gQ)/\∃aX:Int->NP,(∃gS,aX 0 gS eM)/\∀(hC:NV) (C:Int) (eP:Nat) (ap:World),aX C eP ap->Br (decide (C < (ao:Int))) (∃eQ,Ix eO eQ C ao (∃eS eT,LdV pg 165 (eQ.add (C.toNat*2)) (.agg #[.int .u16 eS,.int .i64 eT]) ap/\gNew #[.int .u16 0,.int .i64 0] 165 (fun aY gT=>∃K,StV pg 165 aY (.agg #[.int .u16 eS,.int .i64 eT]) gT K/\∃(eU:FuncId) (eV eW:Array Value),K.cell? b=some (.func (.func eU) eV eW)/\∃eX,K.cell? (aY.add 0)=some (.int .u16 eX)/\∃eY,K.cell? (aY.add 1)=some (.int .i64 eY)/\gNew #[.int .u64 (u64.wrap eX),.int .u64 (u64.wrap eY)] 52 (fun gU gV=>fnVc pg eU (eV++#[.slice (some gU) 2 2]++eW) 0 (fun hD gW=>∃eZ,eZ < eP/\aX (i64.wrap (C+1)) eZ gW) gV) K) ap)) (eN 0 ap))/\∀(hE:NV)  (aZ:World),eN 0 aZ->∃e0 e1 e2,aZ.cell? m=some (.slice e0 e1 e2)/\∃e3 e4,(convert 22 9 (.slice e0 e1 e2)).run pg aZ=.ok (.string e3) e4/\R (.returned (.string e3)) e4) gP) an) gA) i) gj) H) f9) ad) fZ) Z) fO) aH)) fK) aF)) fD) V) fl) au)) fb) f) e6) e5) w
theorem of40 {L R w} (h:SW40 L R w):Calls pg 40 #[L] w R:=
  calls_by H40 _ Tryz.func40 h
def H41:Hints:=⟨[],[(0,[(68,3)],[5]++rg 68 11),(2,[(82,3)],[7,8,10]++rg 82 28),(4,[(92,3)],[10]++rg 92 11),(6,[(113,3)],[12]++rg 113 11),(8,[(127,3)],[14]++rg 127 11),(10,[(141,3)],[16]++rg 141 11),(12,[(155,3)],[18,19,21]++rg 155 30),(14,[(167,3)],[21]++rg 167 11),(16,[(188,3)],[23]++rg 188 11),(18,[(202,3)],[25]++rg 202 11)],[]⟩
def SW41 (z:Value) (R:RT) (w:World):Prop:=
  gNew (z.cells) 75 (fun a eo=>gNew #[.int .i64 0,.int .u32 0,.int .u32 0,.int .u64 0,.int .u32 0,.int .u32 0,.int .u32 0,.slice none 0 0,.slice none 0 0,.slice none 0 0,.slice none 0 0,.string (ByteArray.mk #[]),.int .u8 0,.slice none 0 0,.slice none 0 0,.slice none 0 0,.slice none 0 0,.int .u32 0,.slice none 0 0,.int .u32 0,.int .u16 0,.int .u16 0,.int .u32 0,.int .u8 0,.slice none 0 0,.slice none 0 0,.bool false,.int .u8 0,.int .u8 0,.int .u16 0] 63 (fun a2 b=>∃x5,b.cell? (a.add 0)=some (.int .i64 x5)/\∃x6,b.cell? (a.add 1)=some (.int .u32 x6)/\∃x7,b.cell? (a.add 2)=some (.int .u32 x7)/\∃x8,b.cell? (a.add 3)=some (.int .u64 x8)/\∃x9,b.cell? (a.add 4)=some (.int .u32 x9)/\∃a8,b.cell? (a.add 5)=some (.int .u32 a8)/\∃a9,b.cell? (a.add 6)=some (.int .u32 a9)/\∃ba bb bc,b.cell? (a.add 8)=some (.slice ba bb bc)/\∃bd be bf,b.cell? (a.add 10)=some (.slice bd be bf)/\∃bg,b.cell? (a.add 11)=some (.string bg)/\∃bh,b.cell? (a.add 12)=some (.int .u8 bh)/\∃bi bj bk,b.cell? (a.add 13)=some (.slice bi bj bk)/\∃bl,b.cell? (a.add 17)=some (.int .u32 bl)/\∃bm,b.cell? (a.add 19)=some (.int .u32 bm)/\∃bn,b.cell? (a.add 20)=some (.int .u16 bn)/\∃bo,b.cell? (a.add 21)=some (.int .u16 bo)/\∃bp,b.cell? (a.add 22)=some (.int .u32 bp)/\∃bq,b.cell? (a.add 23)=some (.int .u8 bq)/\∃br bs bt bu,LdV pg 45 (a.add 26) (.agg #[.bool br,.int .u8 bs,.int .u8 bt,.int .u16 bu]) b/\gNew #[.int .i64 0,.int .u32 0,.int .u32 0,.int .u64 0,.int .u32 0,.int .u32 0,.int .u32 0,.slice none 0 0,.slice none 0 0,.slice none 0 0,.slice none 0 0,.string (ByteArray.mk #[]),.int .u8 0,.slice none 0 0,.slice none 0 0,.slice none 0 0,.slice none 0 0,.int .u32 0,.slice none 0 0,.int .u32 0,.int .u16 0,.int .u16 0,.int .u32 0,.int .u8 0,.slice none 0 0,.slice none 0 0,.bool false,.int .u8 0,.int .u8 0,.int .u16 0] 63 (fun c ep=>∃X,StV pg 63 c (.agg #[.int .i64 x5,.int .u32 x6,.int .u32 x7,.int .u64 x8,.int .u32 x9,.int .u32 a8,.int .u32 a9,.slice none 0 0,.slice ba bb bc,.slice none 0 0,.slice bd be bf,.string bg,.int .u8 bh,.slice bi bj bk,.slice none 0 0,.slice none 0 0,.slice none 0 0,.int .u32 bl,.slice none 0 0,.int .u32 bm,.int .u16 bn,.int .u16 bo,.int .u32 bp,.int .u8 bq,.slice none 0 0,.slice none 0 0,.bool br,.int .u8 bs,.int .u8 bt,.int .u16 bu]) ep X/\∃bv A eq,X.cell? (a.add 7)=some (.slice bv A eq)/\∃Y:Int->NP,(∃er,Y 0 er X)/\∀(fi:NV) (d:Int) (bx:Nat) (q:World),Y d bx q->Br (decide (d < (A:Int))) (∃bz,Ix bv bz d A (∃bA bB bC bD bE bF bG,LdV pg 166 (bz.add (d.toNat*7)) (.agg #[.int .u32 bA,.int .u8 bB,.int .u32 bC,.int .u32 bD,.int .u32 bE,.int .u32 bF,.int .u32 bG]) q/\gNew #[.int .u32 0,.int .u8 0,.int .u32 0,.int .u32 0,.int .u32 0,.int .u32 0,.int .u32 0] 166 (fun bH es=>∃B,StV pg 166 bH (.agg #[.int .u32 bA,.int .u8 bB,.int .u32 bC,.int .u32 bD,.int .u32 bE,.int .u32 bF,.int .u32 bG]) es B/\∃bI bJ bK,B.cell? (c.add 7)=some (.slice bI bJ bK)/\∃Z aa ab ac ad ae af,LdV pg 166 bH (.agg #[.int .u32 Z,.int .u8 aa,.int .u32 ab,.int .u32 ac,.int .u32 ad,.int .u32 ae,.int .u32 af]) B/\((.agg #[.int .u32 Z,.int .u8 aa,.int .u32 ab,.int .u32 ac,.int .u32 ad,.int .u32 ae,.int .u32 af]:Value).cells).size=7/\gNew (#[.int .u32 Z,.int .u8 aa,.int .u32 ab,.int .u32 ac,.int .u32 ad,.int .u32 ae,.int .u32 af]) 144 (fun et eu=>∃bL bM bN bO,(Builtin.append_ #[53,53] 53 #[.slice bI bJ bK,.slice (some et) 1 1]).run pg eu=.ok (.slice bL bM bN) bO/\∃bP,StV pg 53 (c.add 7) (.slice bL bM bN) bO bP/\∃bQ,bQ < bx/\Y (i64.wrap (d+1)) bQ bP) B) q)) (∃bS C ev,q.cell? (a.add 9)=some (.slice bS C ev)/\∃ag:Int->NP,(∃ex,ag 0 ex q)/\∀(fj:NV) (e:Int) (bT:Nat) (r:World),ag e bT r->Br (decide (e < (C:Int))) (∃bU,Ix bS bU e C (∃bV bW bX bY,LdV pg 169 (bU.add (e.toNat*2)) (.agg #[.int .u32 bV,.slice bW bX bY]) r/\gNew #[.int .u32 0,.slice none 0 0] 169 (fun ah ey=>∃ai,StV pg 169 ah (.agg #[.int .u32 bV,.slice bW bX bY]) ey ai/\∃bZ,ai.cell? (ah.add 0)=some (.int .u32 bZ)/\gNew #[.int .u32 0,.slice none 0 0] 147 (fun D ez=>∃aj,StV pg 147 D (.agg #[.int .u32 bZ,.slice none 0 0]) ez aj/\∃b0 E eA,aj.cell? (ah.add 1)=some (.slice b0 E eA)/\∃ak:Int->NP,(∃eB,ak 0 eB aj)/\∀(fk:NV) (f:Int) (b1:Nat) (g:World),ak f b1 g->Br (decide (f < (E:Int))) (∃b2,Ix b0 b2 f E (∃b3 b4,LdV pg 170 (b2.add (f.toNat*2)) (.agg #[.int .u8 b3,.string b4]) g/\gNew #[.int .u8 0,.string (ByteArray.mk #[])] 170 (fun b5 eC=>∃F,StV pg 170 b5 (.agg #[.int .u8 b3,.string b4]) eC F/\∃b6 b7 b8,F.cell? (D.add 1)=some (.slice b6 b7 b8)/\∃al am,LdV pg 170 b5 (.agg #[.int .u8 al,.string am]) F/\((.agg #[.int .u8 al,.string am]:Value).cells).size=2/\gNew (#[.int .u8 al,.string am]) 149 (fun eD eE=>∃b9 ca cb cc,(Builtin.append_ #[145,145] 145 #[.slice b6 b7 b8,.slice (some eD) 1 1]).run pg eE=.ok (.slice b9 ca cb) cc/\∃cd,StV pg 145 (D.add 1) (.slice b9 ca cb) cc cd/\∃ce,ce < b1/\ak (i64.wrap (f+1)) ce cd) F) g)) (∃cf cg ch,g.cell? (c.add 9)=some (.slice cf cg ch)/\∃an ao ap aq,LdV pg 147 D (.agg #[.int .u32 an,.slice ao ap aq]) g/\((.agg #[.int .u32 an,.slice ao ap aq]:Value).cells).size=2/\gNew (#[.int .u32 an,.slice ao ap aq]) 147 (fun eF eG=>∃ci cj ck cl,(Builtin.append_ #[54,54] 54 #[.slice cf cg ch,.slice (some eF) 1 1]).run pg eG=.ok (.slice ci cj ck) cl/\∃cm,StV pg 54 (c.add 9) (.slice ci cj ck) cl cm/\∃cn,cn < bT/\ag (i64.wrap (e+1)) cn cm) g)) ai) r)) (∃co G eH,r.cell? (a.add 14)=some (.slice co G eH)/\∃ar:Int->NP,(∃eI,ar 0 eI r)/\∀(fl:NV) (i:Int) (cp:Nat) (s:World),ar i cp s->Br (decide (i < (G:Int))) (∃cq,Ix co cq i G (∃cr cs,LdV pg 171 (cq.add (i.toNat*2)) (.agg #[.int .u16 cr,.int .u16 cs]) s/\gNew #[.int .u16 0,.int .u16 0] 171 (fun ct eJ=>∃H,StV pg 171 ct (.agg #[.int .u16 cr,.int .u16 cs]) eJ H/\∃cu cv cx,H.cell? (c.add 14)=some (.slice cu cv cx)/\∃au av,LdV pg 171 ct (.agg #[.int .u16 au,.int .u16 av]) H/\((.agg #[.int .u16 au,.int .u16 av]:Value).cells).size=2/\gNew (#[.int .u16 au,.int .u16 av]) 151 (fun eK eL=>∃cy cz cA cB,(Builtin.append_ #[56,56] 56 #[.slice cu cv cx,.slice (some eK) 1 1]).run pg eL=.ok (.slice cy cz cA) cB/\∃cC,StV pg 56 (c.add 14) (.slice cy cz cA) cB cC/\∃cD,cD < cp/\ar (i64.wrap (i+1)) cD cC) H) s)) (∃cE I eM,s.cell? (a.add 15)=some (.slice cE I eM)/\∃ax:Int->NP,(∃eN,ax 0 eN s)/\∀(fm:NV) (j:Int) (cF:Nat) (t:World),ax j cF t->Br (decide (j < (I:Int))) (∃cG,Ix cE cG j I (∃cH cI cJ,LdV pg 172 (cG.add (j.toNat*3)) (.agg #[.int .u16 cH,.int .u16 cI,.int .u8 cJ]) t/\gNew #[.int .u16 0,.int .u16 0,.int .u8 0] 172 (fun cK eO=>∃J,StV pg 172 cK (.agg #[.int .u16 cH,.int .u16 cI,.int .u8 cJ]) eO J/\∃cL cM cN,J.cell? (c.add 15)=some (.slice cL cM cN)/\∃ay az aA,LdV pg 172 cK (.agg #[.int .u16 ay,.int .u16 az,.int .u8 aA]) J/\((.agg #[.int .u16 ay,.int .u16 az,.int .u8 aA]:Value).cells).size=3/\gNew (#[.int .u16 ay,.int .u16 az,.int .u8 aA]) 153 (fun eP eQ=>∃cO cP cQ cS,(Builtin.append_ #[57,57] 57 #[.slice cL cM cN,.slice (some eP) 1 1]).run pg eQ=.ok (.slice cO cP cQ) cS/\∃cT,StV pg 57 (c.add 15) (.slice cO cP cQ) cS cT/\∃cU,cU < cF/\ax (i64.wrap (j+1)) cU cT) J) t)) (∃cV K eS,t.cell? (a.add 16)=some (.slice cV K eS)/\∃aB:Int->NP,(∃eT,aB 0 eT t)/\∀(fn:NV) (k:Int) (cW:Nat) (u:World),aB k cW u->Br (decide (k < (K:Int))) (∃cX,Ix cV cX k K (∃cY cZ,LdV pg 173 (cX.add (k.toNat*2)) (.agg #[.int .u32 cY,.int .u8 cZ]) u/\gNew #[.int .u32 0,.int .u8 0] 173 (fun c0 eU=>∃L,StV pg 173 c0 (.agg #[.int .u32 cY,.int .u8 cZ]) eU L/\∃c1 c2 c3,L.cell? (c.add 16)=some (.slice c1 c2 c3)/\∃aC aD,LdV pg 173 c0 (.agg #[.int .u32 aC,.int .u8 aD]) L/\((.agg #[.int .u32 aC,.int .u8 aD]:Value).cells).size=2/\gNew (#[.int .u32 aC,.int .u8 aD]) 155 (fun eV eW=>∃c4 c5 c6 c7,(Builtin.append_ #[58,58] 58 #[.slice c1 c2 c3,.slice (some eV) 1 1]).run pg eW=.ok (.slice c4 c5 c6) c7/\∃c8,StV pg 58 (c.add 16) (.slice c4 c5 c6) c7 c8/\∃c9,c9 < cW/\aB (i64.wrap (k+1)) c9 c8) L) u)) (∃da M eX,u.cell? (a.add 18)=some (.slice da M eX)/\∃aE:Int->NP,(∃eY,aE 0 eY u)/\∀(fo:NV) (l:Int) (db:Nat) (v:World),aE l db v->Br (decide (l < (M:Int))) (∃dc,Ix da dc l M (∃dd de df dg dh,LdV pg 176 (dc.add (l.toNat*3)) (.agg #[.int .u32 dd,.int .u16 de,.slice df dg dh]) v/\gNew #[.int .u32 0,.int .u16 0,.slice none 0 0] 176 (fun N eZ=>∃O,StV pg 176 N (.agg #[.int .u32 dd,.int .u16 de,.slice df dg dh]) eZ O/\∃di,O.cell? (N.add 0)=some (.int .u32 di)/\∃dj,O.cell? (N.add 1)=some (.int .u16 dj)/\gNew #[.int .u32 0,.int .u16 0,.slice none 0 0] 158 (fun P e0=>∃aF,StV pg 158 P (.agg #[.int .u32 di,.int .u16 dj,.slice none 0 0]) e0 aF/\∃dk Q e1,aF.cell? (N.add 2)=some (.slice dk Q e1)/\∃aG:Int->NP,(∃e2,aG 0 e2 aF)/\∀(fp:NV) (m:Int) (dl:Nat) (n:World),aG m dl n->Br (decide (m < (Q:Int))) (∃dm,Ix dk dm m Q (∃dn dp dq,LdV pg 177 (dm.add (m.toNat*3)) (.agg #[.bool dn,.int .u8 dp,.int .u16 dq]) n/\gNew #[.bool false,.int .u8 0,.int .u16 0] 177 (fun dr e3=>∃S,StV pg 177 dr (.agg #[.bool dn,.int .u8 dp,.int .u16 dq]) e3 S/\∃ds dt du,S.cell? (P.add 2)=some (.slice ds dt du)/\∃aH aI aJ,LdV pg 177 dr (.agg #[.bool aH,.int .u8 aI,.int .u16 aJ]) S/\((.agg #[.bool aH,.int .u8 aI,.int .u16 aJ]:Value).cells).size=3/\gNew (#[.bool aH,.int .u8 aI,.int .u16 aJ]) 160 (fun e4 e5=>∃dv dx dy dz,(Builtin.append_ #[156,156] 156 #[.slice ds dt du,.slice (some e4) 1 1]).run pg e5=.ok (.slice dv dx dy) dz/\∃dA,StV pg 156 (P.add 2) (.slice dv dx dy) dz dA/\∃dB,dB < dl/\aG (i64.wrap (m+1)) dB dA) S) n)) (∃dC dD dE,n.cell? (c.add 18)=some (.slice dC dD dE)/\∃aK aL aM aN aO,LdV pg 158 P (.agg #[.int .u32 aK,.int .u16 aL,.slice aM aN aO]) n/\((.agg #[.int .u32 aK,.int .u16 aL,.slice aM aN aO]:Value).cells).size=3/\gNew (#[.int .u32 aK,.int .u16 aL,.slice aM aN aO]) 158 (fun e6 e7=>∃dF dG dH dI,(Builtin.append_ #[59,59] 59 #[.slice dC dD dE,.slice (some e6) 1 1]).run pg e7=.ok (.slice dF dG dH) dI/\∃dJ,StV pg 59 (c.add 18) (.slice dF dG dH) dI dJ/\∃dK,dK < db/\aE (i64.wrap (l+1)) dK dJ) n)) O) v)) (∃dL T e8,v.cell? (a.add 24)=some (.slice dL T e8)/\∃aP:Int->NP,(∃e9,aP 0 e9 v)/\∀(fq:NV) (o:Int) (dM:Nat) (x:World),aP o dM x->Br (decide (o < (T:Int))) (∃dN,Ix dL dN o T (∃dO dP dQ dS dT dU dV,LdV pg 178 (dN.add (o.toNat*5)) (.agg #[.bool dO,.int .u16 dP,.int .u16 dQ,.int .u16 dS,.slice dT dU dV]) x/\gNew #[.bool false,.int .u16 0,.int .u16 0,.int .u16 0,.slice none 0 0] 178 (fun dW fa=>∃U,StV pg 178 dW (.agg #[.bool dO,.int .u16 dP,.int .u16 dQ,.int .u16 dS,.slice dT dU dV]) fa U/\∃dX dY dZ,U.cell? (c.add 24)=some (.slice dX dY dZ)/\∃aQ aS aT aU aV aW aX,LdV pg 178 dW (.agg #[.bool aQ,.int .u16 aS,.int .u16 aT,.int .u16 aU,.slice aV aW aX]) U/\((.agg #[.bool aQ,.int .u16 aS,.int .u16 aT,.int .u16 aU,.slice aV aW aX]:Value).cells).size=5/\gNew (#[.bool aQ,.int .u16 aS,.int .u16 aT,.int .u16 aU,.slice aV aW aX]) 163 (fun fb fc=>∃d0 d1 d2 d3,(Builtin.append_ #[60,60] 60 #[.slice dX dY dZ,.slice (some fb) 1 1]).run pg fc=.ok (.slice d0 d1 d2) d3/\∃d4,StV pg 60 (c.add 24) (.slice d0 d1 d2) d3 d4/\∃d5,d5 < dM/\aP (i64.wrap (o+1)) d5 d4) U) x)) (∃d6 V fd,x.cell? (a.add 25)=some (.slice d6 V fd)/\∃aY:Int->NP,(∃fe,aY 0 fe x)/\∀(fr:NV) (p:Int) (d7:Nat) (y:World),aY p d7 y->Br (decide (p < (V:Int))) (∃d8,Ix d6 d8 p V (∃d9 ea,LdV pg 179 (d8.add (p.toNat*2)) (.agg #[.int .u16 d9,.int .i64 ea]) y/\gNew #[.int .u16 0,.int .i64 0] 179 (fun eb ff=>∃W,StV pg 179 eb (.agg #[.int .u16 d9,.int .i64 ea]) ff W/\∃ec ed ee,W.cell? (c.add 25)=some (.slice ec ed ee)/\∃aZ a0,LdV pg 179 eb (.agg #[.int .u16 aZ,.int .i64 a0]) W/\((.agg #[.int .u16 aZ,.int .i64 a0]:Value).cells).size=2/\gNew (#[.int .u16 aZ,.int .i64 a0]) 165 (fun fg fh=>∃ef eg eh ei,(Builtin.append_ #[61,61] 61 #[.slice ec ed ee,.slice (some fg) 1 1]).run pg fh=.ok (.slice ef eg eh) ei/\∃ej,StV pg 61 (c.add 25) (.slice ef eg eh) ei ej/\∃ek,ek < d7/\aY (i64.wrap (p+1)) ek ej) W) y)) (∃el,LdV pg 63 c (el) y/\∃a1,StV pg 63 a2 (el) y a1/\∃em,LdV pg 63 a2 (em) a1/\R (.returned (em)) a1))))))))) b) eo) w
theorem of41 {z R w} (h:SW41 z R w):Calls pg 41 #[z] w R:=
  calls_by H41 _ Tryz.func41 h
def H42:Hints:=⟨[],[],[]⟩
def SW42 (d:Value) (R:RT) (w:World):Prop:=
  gNew (d.cells) 63 (fun b c=>∃D f E,c.cell? (b.add 7)=some (.slice D f E)/\Br (decide ((f:Int) > 2147483647)) (R (.returned (.bool false)) c) (∃F g G,c.cell? (b.add 8)=some (.slice F g G)/\Br (decide ((g:Int) > 2147483647)) (R (.returned (.bool false)) c) (∃t u v,c.cell? (b.add 9)=some (.slice t u v)/\Calls pg 84 #[.slice t u v] c (fun en a=>∃i,en=.returned (.bool i)/\Br (!i) (R (.returned (.bool false)) a) (∃H j I,a.cell? (b.add 10)=some (.slice H j I)/\Br (decide ((j:Int) > 2147483647)) (R (.returned (.bool false)) a) (∃k,a.cell? (b.add 11)=some (.string k)/\Br (decide (((k.size:Nat):Int) > 2147483647)) (R (.returned (.bool false)) a) (∃J l K,a.cell? (b.add 13)=some (.slice J l K)/\Br (decide ((l:Int) > 2147483647)) (R (.returned (.bool false)) a) (∃L m M,a.cell? (b.add 14)=some (.slice L m M)/\Br (decide ((m:Int) > 2147483647)) (R (.returned (.bool false)) a) (∃N n O,a.cell? (b.add 15)=some (.slice N n O)/\Br (decide ((n:Int) > 2147483647)) (R (.returned (.bool false)) a) (∃P o Q,a.cell? (b.add 16)=some (.slice P o Q)/\Br (decide ((o:Int) > 2147483647)) (R (.returned (.bool false)) a) (∃x y z,a.cell? (b.add 18)=some (.slice x y z)/\Calls pg 85 #[.slice x y z] a (fun en p=>∃q,en=.returned (.bool q)/\Br (!q) (R (.returned (.bool false)) p) (∃A B C,p.cell? (b.add 24)=some (.slice A B C)/\Calls pg 86 #[.slice A B C] p (fun en e=>∃r,en=.returned (.bool r)/\Br (!r) (R (.returned (.bool false)) e) (∃S s T,e.cell? (b.add 25)=some (.slice S s T)/\Br (decide ((s:Int) > 2147483647)) (R (.returned (.bool false)) e) (R (.returned (.bool true)) e)))))))))))))))) w
theorem of42 {d R w} (h:SW42 d R w):Calls pg 42 #[d] w R:=
  calls_by H42 _ Tryz.func42 h
def H43:Hints:=⟨[],[],[]⟩
def SW43 (c:Value) (R:RT) (w:World):Prop:=
  gNew (c.cells) 63 (fun d v=>gNew #[.int .i64 0,.int .u32 0,.int .u32 0,.int .u64 0,.int .u32 0,.int .u32 0,.int .u32 0,.slice none 0 0,.slice none 0 0,.slice none 0 0,.slice none 0 0,.string (ByteArray.mk #[]),.int .u8 0,.slice none 0 0,.slice none 0 0,.slice none 0 0,.slice none 0 0,.int .u32 0,.slice none 0 0,.int .u32 0,.int .u16 0,.int .u16 0,.int .u32 0,.int .u8 0,.slice none 0 0,.slice none 0 0,.bool false,.int .u8 0,.int .u8 0,.int .u16 0] 63 (fun a k=>∃l,LdV pg 63 d (l) k/\Calls pg 48 #[l] k (fun en b=>∃m e n f,en=.returned (.tuple #[.slice m e n,.bool f])/\Br (!f) (∃o,LdV pg 63 d (o) b/\∃g,StV pg 63 a (o) b g/\∃p,LdV pg 63 a (p) g/\R (.returned (.tuple #[p,.slice none 0 0,.bool false])) g) (Br (decide ((e:Int) > 131072)) (∃q,LdV pg 63 d (q) b/\∃i,StV pg 63 a (q) b i/\∃r,LdV pg 63 a (r) i/\R (.returned (.tuple #[r,.slice none 0 0,.bool false])) i) (∃s,LdV pg 63 d (s) b/\Calls pg 87 #[s] b (fun en x=>∃t,en=.returned (t)/\∃j,StV pg 63 a (t) x j/\∃u,LdV pg 63 a (u) j/\R (.returned (.tuple #[u,.slice m e n,.bool true])) j))))) v) w
theorem of43 {c R w} (h:SW43 c R w):Calls pg 43 #[c] w R:=
  calls_by H43 _ Tryz.func43 h
def H45:Hints:=⟨[],[(0,[(4,22),(12,3)],[2,3,4,6,7,8]++rg 12 16)],[]⟩
def SW45 (d:Option Addr) (a f:Nat) (R:RT) (w:World):Prop:=
  ∃l m n o,(Instr.makeSlice 22 (.int .i64 0) (.int .i64 0)).run pg w=.ok (.slice l m n) o/\∃g:Option Addr->Nat->Nat->Int->NP,(∃C,g l m n 0 C o)/\∀(D:NV) (i:Option Addr) (j k:Nat) (b:Int) (p:Nat) (e:World),g i j k b p e->Br (decide (b < (a:Int))) (∃q,Ix d q b a (∃r,e.cell? (q.add (b.toNat*1))=some (r)/\Invk r "Marshal" #[] e (fun en s=>∃t u v c,en=.returned (.tuple #[.slice t u v,c])/\isIf c/\Br (!(isNilI c)) (R (.returned (.tuple #[.slice none 0 0,c])) s) (∃x y z A,(Builtin.append_ #[22,22] 22 #[.slice i j k,.slice t u v]).run pg s=.ok (.slice x y z) A/\∃B,B < p/\g x y z (i64.wrap (b+1)) B A)))) (R (.returned (.tuple #[.slice i j k,.nilIface])) e)
theorem of45 {d a f R w} (h:SW45 d a f R w):Calls pg 45 #[.slice d a f] w R:=
  calls_by H45 _ Tryz.func45 h
def H46:Hints:=⟨[],[(0,[(3,88),(8,3)],[3,5]++rg 8 10)],[]⟩
def SW46 (c:Option Addr) (a e:Nat) (R:RT) (w:World):Prop:=
  ∃f:Option Addr->Nat->Nat->Int->NP,(∃x,f none 0 0 0 x w)/\∀(C:NV) (g:Option Addr) (i j:Nat) (b:Int) (m:Nat) (d:World),f g i j b m d->Br (decide (b < (a:Int))) (∃n,Ix c n b a (∃o,LdV pg 75 (n.add (b.toNat*30)) (o) d/\gNew #[.int .i64 0,.int .u32 0,.int .u32 0,.int .u64 0,.int .u32 0,.int .u32 0,.int .u32 0,.slice none 0 0,.slice none 0 0,.slice none 0 0,.slice none 0 0,.string (ByteArray.mk #[]),.int .u8 0,.slice none 0 0,.slice none 0 0,.slice none 0 0,.slice none 0 0,.int .u32 0,.slice none 0 0,.int .u32 0,.int .u16 0,.int .u16 0,.int .u32 0,.int .u8 0,.slice none 0 0,.slice none 0 0,.bool false,.int .u8 0,.int .u8 0,.int .u16 0] 75 (fun p y=>∃k,StV pg 75 p (o) y k/\∃q,LdV pg 75 p (q) k/\Calls pg 65 #[q] k (fun en z=>∃l,en=.returned (l)/\(l.cells).size=1/\gNew (l.cells) 123 (fun A B=>∃r s t u,(Builtin.append_ #[88,88] 88 #[.slice g i j,.slice (some A) 1 1]).run pg B=.ok (.slice r s t) u/\∃v,v < m/\f r s t (i64.wrap (b+1)) v u) z)) d)) (R (.returned (.slice g i j)) d)
theorem of46 {c a e R w} (h:SW46 c a e R w):Calls pg 46 #[.slice c a e] w R:=
  calls_by H46 _ Tryz.func46 h
def H47:Hints:=⟨[],[(0,[(68,3)],[5]++rg 68 11),(2,[(82,3)],[7,8,10]++rg 82 28),(4,[(92,3)],[10]++rg 92 11),(6,[(113,3)],[12]++rg 113 11),(8,[(127,3)],[14]++rg 127 11),(10,[(141,3)],[16]++rg 141 11),(12,[(155,3)],[18,19,21]++rg 155 30),(14,[(167,3)],[21]++rg 167 11),(16,[(188,3)],[23]++rg 188 11),(18,[(202,3)],[25]++rg 202 11)],[]⟩
def SW47 (z:Value) (R:RT) (w:World):Prop:=
  gNew (z.cells) 63 (fun a eo=>gNew #[.int .i64 0,.int .u32 0,.int .u32 0,.int .u64 0,.int .u32 0,.int .u32 0,.int .u32 0,.slice none 0 0,.slice none 0 0,.slice none 0 0,.slice none 0 0,.string (ByteArray.mk #[]),.int .u8 0,.slice none 0 0,.slice none 0 0,.slice none 0 0,.slice none 0 0,.int .u32 0,.slice none 0 0,.int .u32 0,.int .u16 0,.int .u16 0,.int .u32 0,.int .u8 0,.slice none 0 0,.slice none 0 0,.bool false,.int .u8 0,.int .u8 0,.int .u16 0] 75 (fun a2 b=>∃x5,b.cell? (a.add 0)=some (.int .i64 x5)/\∃x6,b.cell? (a.add 1)=some (.int .u32 x6)/\∃x7,b.cell? (a.add 2)=some (.int .u32 x7)/\∃x8,b.cell? (a.add 3)=some (.int .u64 x8)/\∃x9,b.cell? (a.add 4)=some (.int .u32 x9)/\∃a8,b.cell? (a.add 5)=some (.int .u32 a8)/\∃a9,b.cell? (a.add 6)=some (.int .u32 a9)/\∃ba bb bc,b.cell? (a.add 8)=some (.slice ba bb bc)/\∃bd be bf,b.cell? (a.add 10)=some (.slice bd be bf)/\∃bg,b.cell? (a.add 11)=some (.string bg)/\∃bh,b.cell? (a.add 12)=some (.int .u8 bh)/\∃bi bj bk,b.cell? (a.add 13)=some (.slice bi bj bk)/\∃bl,b.cell? (a.add 17)=some (.int .u32 bl)/\∃bm,b.cell? (a.add 19)=some (.int .u32 bm)/\∃bn,b.cell? (a.add 20)=some (.int .u16 bn)/\∃bo,b.cell? (a.add 21)=some (.int .u16 bo)/\∃bp,b.cell? (a.add 22)=some (.int .u32 bp)/\∃bq,b.cell? (a.add 23)=some (.int .u8 bq)/\∃br bs bt bu,LdV pg 42 (a.add 26) (.agg #[.bool br,.int .u8 bs,.int .u8 bt,.int .u16 bu]) b/\gNew #[.int .i64 0,.int .u32 0,.int .u32 0,.int .u64 0,.int .u32 0,.int .u32 0,.int .u32 0,.slice none 0 0,.slice none 0 0,.slice none 0 0,.slice none 0 0,.string (ByteArray.mk #[]),.int .u8 0,.slice none 0 0,.slice none 0 0,.slice none 0 0,.slice none 0 0,.int .u32 0,.slice none 0 0,.int .u32 0,.int .u16 0,.int .u16 0,.int .u32 0,.int .u8 0,.slice none 0 0,.slice none 0 0,.bool false,.int .u8 0,.int .u8 0,.int .u16 0] 75 (fun c ep=>∃X,StV pg 75 c (.agg #[.int .i64 x5,.int .u32 x6,.int .u32 x7,.int .u64 x8,.int .u32 x9,.int .u32 a8,.int .u32 a9,.slice none 0 0,.slice ba bb bc,.slice none 0 0,.slice bd be bf,.string bg,.int .u8 bh,.slice bi bj bk,.slice none 0 0,.slice none 0 0,.slice none 0 0,.int .u32 bl,.slice none 0 0,.int .u32 bm,.int .u16 bn,.int .u16 bo,.int .u32 bp,.int .u8 bq,.slice none 0 0,.slice none 0 0,.bool br,.int .u8 bs,.int .u8 bt,.int .u16 bu]) ep X/\∃bv A eq,X.cell? (a.add 7)=some (.slice bv A eq)/\∃Y:Int->NP,(∃er,Y 0 er X)/\∀(fi:NV) (d:Int) (bx:Nat) (q:World),Y d bx q->Br (decide (d < (A:Int))) (∃bz,Ix bv bz d A (∃bA bB bC bD bE bF bG,LdV pg 144 (bz.add (d.toNat*7)) (.agg #[.int .u32 bA,.int .u8 bB,.int .u32 bC,.int .u32 bD,.int .u32 bE,.int .u32 bF,.int .u32 bG]) q/\gNew #[.int .u32 0,.int .u8 0,.int .u32 0,.int .u32 0,.int .u32 0,.int .u32 0,.int .u32 0] 144 (fun bH es=>∃B,StV pg 144 bH (.agg #[.int .u32 bA,.int .u8 bB,.int .u32 bC,.int .u32 bD,.int .u32 bE,.int .u32 bF,.int .u32 bG]) es B/\∃bI bJ bK,B.cell? (c.add 7)=some (.slice bI bJ bK)/\∃Z aa ab ac ad ae af,LdV pg 144 bH (.agg #[.int .u32 Z,.int .u8 aa,.int .u32 ab,.int .u32 ac,.int .u32 ad,.int .u32 ae,.int .u32 af]) B/\((.agg #[.int .u32 Z,.int .u8 aa,.int .u32 ab,.int .u32 ac,.int .u32 ad,.int .u32 ae,.int .u32 af]:Value).cells).size=7/\gNew (#[.int .u32 Z,.int .u8 aa,.int .u32 ab,.int .u32 ac,.int .u32 ad,.int .u32 ae,.int .u32 af]) 166 (fun et eu=>∃bL bM bN bO,(Builtin.append_ #[66,66] 66 #[.slice bI bJ bK,.slice (some et) 1 1]).run pg eu=.ok (.slice bL bM bN) bO/\∃bP,StV pg 66 (c.add 7) (.slice bL bM bN) bO bP/\∃bQ,bQ < bx/\Y (i64.wrap (d+1)) bQ bP) B) q)) (∃bS C ev,q.cell? (a.add 9)=some (.slice bS C ev)/\∃ag:Int->NP,(∃ex,ag 0 ex q)/\∀(fj:NV) (e:Int) (bT:Nat) (r:World),ag e bT r->Br (decide (e < (C:Int))) (∃bU,Ix bS bU e C (∃bV bW bX bY,LdV pg 147 (bU.add (e.toNat*2)) (.agg #[.int .u32 bV,.slice bW bX bY]) r/\gNew #[.int .u32 0,.slice none 0 0] 147 (fun ah ey=>∃ai,StV pg 147 ah (.agg #[.int .u32 bV,.slice bW bX bY]) ey ai/\∃bZ,ai.cell? (ah.add 0)=some (.int .u32 bZ)/\gNew #[.int .u32 0,.slice none 0 0] 169 (fun D ez=>∃aj,StV pg 169 D (.agg #[.int .u32 bZ,.slice none 0 0]) ez aj/\∃b0 E eA,aj.cell? (ah.add 1)=some (.slice b0 E eA)/\∃ak:Int->NP,(∃eB,ak 0 eB aj)/\∀(fk:NV) (f:Int) (b1:Nat) (g:World),ak f b1 g->Br (decide (f < (E:Int))) (∃b2,Ix b0 b2 f E (∃b3 b4,LdV pg 149 (b2.add (f.toNat*2)) (.agg #[.int .u8 b3,.string b4]) g/\gNew #[.int .u8 0,.string (ByteArray.mk #[])] 149 (fun b5 eC=>∃F,StV pg 149 b5 (.agg #[.int .u8 b3,.string b4]) eC F/\∃b6 b7 b8,F.cell? (D.add 1)=some (.slice b6 b7 b8)/\∃al am,LdV pg 149 b5 (.agg #[.int .u8 al,.string am]) F/\((.agg #[.int .u8 al,.string am]:Value).cells).size=2/\gNew (#[.int .u8 al,.string am]) 170 (fun eD eE=>∃b9 ca cb cc,(Builtin.append_ #[167,167] 167 #[.slice b6 b7 b8,.slice (some eD) 1 1]).run pg eE=.ok (.slice b9 ca cb) cc/\∃cd,StV pg 167 (D.add 1) (.slice b9 ca cb) cc cd/\∃ce,ce < b1/\ak (i64.wrap (f+1)) ce cd) F) g)) (∃cf cg ch,g.cell? (c.add 9)=some (.slice cf cg ch)/\∃an ao ap aq,LdV pg 169 D (.agg #[.int .u32 an,.slice ao ap aq]) g/\((.agg #[.int .u32 an,.slice ao ap aq]:Value).cells).size=2/\gNew (#[.int .u32 an,.slice ao ap aq]) 169 (fun eF eG=>∃ci cj ck cl,(Builtin.append_ #[67,67] 67 #[.slice cf cg ch,.slice (some eF) 1 1]).run pg eG=.ok (.slice ci cj ck) cl/\∃cm,StV pg 67 (c.add 9) (.slice ci cj ck) cl cm/\∃cn,cn < bT/\ag (i64.wrap (e+1)) cn cm) g)) ai) r)) (∃co G eH,r.cell? (a.add 14)=some (.slice co G eH)/\∃ar:Int->NP,(∃eI,ar 0 eI r)/\∀(fl:NV) (i:Int) (cp:Nat) (s:World),ar i cp s->Br (decide (i < (G:Int))) (∃cq,Ix co cq i G (∃cr cs,LdV pg 151 (cq.add (i.toNat*2)) (.agg #[.int .u16 cr,.int .u16 cs]) s/\gNew #[.int .u16 0,.int .u16 0] 151 (fun ct eJ=>∃H,StV pg 151 ct (.agg #[.int .u16 cr,.int .u16 cs]) eJ H/\∃cu cv cx,H.cell? (c.add 14)=some (.slice cu cv cx)/\∃au av,LdV pg 151 ct (.agg #[.int .u16 au,.int .u16 av]) H/\((.agg #[.int .u16 au,.int .u16 av]:Value).cells).size=2/\gNew (#[.int .u16 au,.int .u16 av]) 171 (fun eK eL=>∃cy cz cA cB,(Builtin.append_ #[68,68] 68 #[.slice cu cv cx,.slice (some eK) 1 1]).run pg eL=.ok (.slice cy cz cA) cB/\∃cC,StV pg 68 (c.add 14) (.slice cy cz cA) cB cC/\∃cD,cD < cp/\ar (i64.wrap (i+1)) cD cC) H) s)) (∃cE I eM,s.cell? (a.add 15)=some (.slice cE I eM)/\∃ax:Int->NP,(∃eN,ax 0 eN s)/\∀(fm:NV) (j:Int) (cF:Nat) (t:World),ax j cF t->Br (decide (j < (I:Int))) (∃cG,Ix cE cG j I (∃cH cI cJ,LdV pg 153 (cG.add (j.toNat*3)) (.agg #[.int .u16 cH,.int .u16 cI,.int .u8 cJ]) t/\gNew #[.int .u16 0,.int .u16 0,.int .u8 0] 153 (fun cK eO=>∃J,StV pg 153 cK (.agg #[.int .u16 cH,.int .u16 cI,.int .u8 cJ]) eO J/\∃cL cM cN,J.cell? (c.add 15)=some (.slice cL cM cN)/\∃ay az aA,LdV pg 153 cK (.agg #[.int .u16 ay,.int .u16 az,.int .u8 aA]) J/\((.agg #[.int .u16 ay,.int .u16 az,.int .u8 aA]:Value).cells).size=3/\gNew (#[.int .u16 ay,.int .u16 az,.int .u8 aA]) 172 (fun eP eQ=>∃cO cP cQ cS,(Builtin.append_ #[69,69] 69 #[.slice cL cM cN,.slice (some eP) 1 1]).run pg eQ=.ok (.slice cO cP cQ) cS/\∃cT,StV pg 69 (c.add 15) (.slice cO cP cQ) cS cT/\∃cU,cU < cF/\ax (i64.wrap (j+1)) cU cT) J) t)) (∃cV K eS,t.cell? (a.add 16)=some (.slice cV K eS)/\∃aB:Int->NP,(∃eT,aB 0 eT t)/\∀(fn:NV) (k:Int) (cW:Nat) (u:World),aB k cW u->Br (decide (k < (K:Int))) (∃cX,Ix cV cX k K (∃cY cZ,LdV pg 155 (cX.add (k.toNat*2)) (.agg #[.int .u32 cY,.int .u8 cZ]) u/\gNew #[.int .u32 0,.int .u8 0] 155 (fun c0 eU=>∃L,StV pg 155 c0 (.agg #[.int .u32 cY,.int .u8 cZ]) eU L/\∃c1 c2 c3,L.cell? (c.add 16)=some (.slice c1 c2 c3)/\∃aC aD,LdV pg 155 c0 (.agg #[.int .u32 aC,.int .u8 aD]) L/\((.agg #[.int .u32 aC,.int .u8 aD]:Value).cells).size=2/\gNew (#[.int .u32 aC,.int .u8 aD]) 173 (fun eV eW=>∃c4 c5 c6 c7,(Builtin.append_ #[70,70] 70 #[.slice c1 c2 c3,.slice (some eV) 1 1]).run pg eW=.ok (.slice c4 c5 c6) c7/\∃c8,StV pg 70 (c.add 16) (.slice c4 c5 c6) c7 c8/\∃c9,c9 < cW/\aB (i64.wrap (k+1)) c9 c8) L) u)) (∃da M eX,u.cell? (a.add 18)=some (.slice da M eX)/\∃aE:Int->NP,(∃eY,aE 0 eY u)/\∀(fo:NV) (l:Int) (db:Nat) (v:World),aE l db v->Br (decide (l < (M:Int))) (∃dc,Ix da dc l M (∃dd de df dg dh,LdV pg 158 (dc.add (l.toNat*3)) (.agg #[.int .u32 dd,.int .u16 de,.slice df dg dh]) v/\gNew #[.int .u32 0,.int .u16 0,.slice none 0 0] 158 (fun N eZ=>∃O,StV pg 158 N (.agg #[.int .u32 dd,.int .u16 de,.slice df dg dh]) eZ O/\∃di,O.cell? (N.add 0)=some (.int .u32 di)/\∃dj,O.cell? (N.add 1)=some (.int .u16 dj)/\gNew #[.int .u32 0,.int .u16 0,.slice none 0 0] 176 (fun P e0=>∃aF,StV pg 176 P (.agg #[.int .u32 di,.int .u16 dj,.slice none 0 0]) e0 aF/\∃dk Q e1,aF.cell? (N.add 2)=some (.slice dk Q e1)/\∃aG:Int->NP,(∃e2,aG 0 e2 aF)/\∀(fp:NV) (m:Int) (dl:Nat) (n:World),aG m dl n->Br (decide (m < (Q:Int))) (∃dm,Ix dk dm m Q (∃dn dp dq,LdV pg 160 (dm.add (m.toNat*3)) (.agg #[.bool dn,.int .u8 dp,.int .u16 dq]) n/\gNew #[.bool false,.int .u8 0,.int .u16 0] 160 (fun dr e3=>∃S,StV pg 160 dr (.agg #[.bool dn,.int .u8 dp,.int .u16 dq]) e3 S/\∃ds dt du,S.cell? (P.add 2)=some (.slice ds dt du)/\∃aH aI aJ,LdV pg 160 dr (.agg #[.bool aH,.int .u8 aI,.int .u16 aJ]) S/\((.agg #[.bool aH,.int .u8 aI,.int .u16 aJ]:Value).cells).size=3/\gNew (#[.bool aH,.int .u8 aI,.int .u16 aJ]) 177 (fun e4 e5=>∃dv dx dy dz,(Builtin.append_ #[174,174] 174 #[.slice ds dt du,.slice (some e4) 1 1]).run pg e5=.ok (.slice dv dx dy) dz/\∃dA,StV pg 174 (P.add 2) (.slice dv dx dy) dz dA/\∃dB,dB < dl/\aG (i64.wrap (m+1)) dB dA) S) n)) (∃dC dD dE,n.cell? (c.add 18)=some (.slice dC dD dE)/\∃aK aL aM aN aO,LdV pg 176 P (.agg #[.int .u32 aK,.int .u16 aL,.slice aM aN aO]) n/\((.agg #[.int .u32 aK,.int .u16 aL,.slice aM aN aO]:Value).cells).size=3/\gNew (#[.int .u32 aK,.int .u16 aL,.slice aM aN aO]) 176 (fun e6 e7=>∃dF dG dH dI,(Builtin.append_ #[71,71] 71 #[.slice dC dD dE,.slice (some e6) 1 1]).run pg e7=.ok (.slice dF dG dH) dI/\∃dJ,StV pg 71 (c.add 18) (.slice dF dG dH) dI dJ/\∃dK,dK < db/\aE (i64.wrap (l+1)) dK dJ) n)) O) v)) (∃dL T e8,v.cell? (a.add 24)=some (.slice dL T e8)/\∃aP:Int->NP,(∃e9,aP 0 e9 v)/\∀(fq:NV) (o:Int) (dM:Nat) (x:World),aP o dM x->Br (decide (o < (T:Int))) (∃dN,Ix dL dN o T (∃dO dP dQ dS dT dU dV,LdV pg 163 (dN.add (o.toNat*5)) (.agg #[.bool dO,.int .u16 dP,.int .u16 dQ,.int .u16 dS,.slice dT dU dV]) x/\gNew #[.bool false,.int .u16 0,.int .u16 0,.int .u16 0,.slice none 0 0] 163 (fun dW fa=>∃U,StV pg 163 dW (.agg #[.bool dO,.int .u16 dP,.int .u16 dQ,.int .u16 dS,.slice dT dU dV]) fa U/\∃dX dY dZ,U.cell? (c.add 24)=some (.slice dX dY dZ)/\∃aQ aS aT aU aV aW aX,LdV pg 163 dW (.agg #[.bool aQ,.int .u16 aS,.int .u16 aT,.int .u16 aU,.slice aV aW aX]) U/\((.agg #[.bool aQ,.int .u16 aS,.int .u16 aT,.int .u16 aU,.slice aV aW aX]:Value).cells).size=5/\gNew (#[.bool aQ,.int .u16 aS,.int .u16 aT,.int .u16 aU,.slice aV aW aX]) 178 (fun fb fc=>∃d0 d1 d2 d3,(Builtin.append_ #[72,72] 72 #[.slice dX dY dZ,.slice (some fb) 1 1]).run pg fc=.ok (.slice d0 d1 d2) d3/\∃d4,StV pg 72 (c.add 24) (.slice d0 d1 d2) d3 d4/\∃d5,d5 < dM/\aP (i64.wrap (o+1)) d5 d4) U) x)) (∃d6 V fd,x.cell? (a.add 25)=some (.slice d6 V fd)/\∃aY:Int->NP,(∃fe,aY 0 fe x)/\∀(fr:NV) (p:Int) (d7:Nat) (y:World),aY p d7 y->Br (decide (p < (V:Int))) (∃d8,Ix d6 d8 p V (∃d9 ea,LdV pg 165 (d8.add (p.toNat*2)) (.agg #[.int .u16 d9,.int .i64 ea]) y/\gNew #[.int .u16 0,.int .i64 0] 165 (fun eb ff=>∃W,StV pg 165 eb (.agg #[.int .u16 d9,.int .i64 ea]) ff W/\∃ec ed ee,W.cell? (c.add 25)=some (.slice ec ed ee)/\∃aZ a0,LdV pg 165 eb (.agg #[.int .u16 aZ,.int .i64 a0]) W/\((.agg #[.int .u16 aZ,.int .i64 a0]:Value).cells).size=2/\gNew (#[.int .u16 aZ,.int .i64 a0]) 179 (fun fg fh=>∃ef eg eh ei,(Builtin.append_ #[73,73] 73 #[.slice ec ed ee,.slice (some fg) 1 1]).run pg fh=.ok (.slice ef eg eh) ei/\∃ej,StV pg 73 (c.add 25) (.slice ef eg eh) ei ej/\∃ek,ek < d7/\aY (i64.wrap (p+1)) ek ej) W) y)) (∃el,LdV pg 75 c (el) y/\∃a1,StV pg 75 a2 (el) y a1/\∃em,LdV pg 75 a2 (em) a1/\R (.returned (em)) a1))))))))) b) eo) w
theorem of47 {z R w} (h:SW47 z R w):Calls pg 47 #[z] w R:=
  calls_by H47 _ Tryz.func47 h
def H48:Hints:=⟨[(5,[0,1,0,4,8,24,40,72,160,256,768,1280,2304,4352,8192,24576,40960,73728,139264,8192,532480,1056768,2367488,4202496,8195,33554431],33554432,ons [1,3,5,7,9,10,13,15,17,19,20,23,25,27,29,39,49] (.two 15 20 (ons [33,35,37,40,43,45,47,51] .done) (ons [43,30,33,35,37,45,47,51] .done)))],[],[]⟩
def SW48 (l:Value) (R:RT) (w:World):Prop:=
  gNew (l.cells) 63 (fun c d=>∃n,d.cell? (c.add 0)=some (.int .i64 n)/\Br (decide (n < 0)) (R (.returned (.tuple #[.slice none 0 0,.bool false])) d) (∃o,d.cell? (c.add 0)=some (.int .i64 o)/\Br (decide (o > 13)) (R (.returned (.tuple #[.slice none 0 0,.bool false])) d) (∃p,d.cell? (c.add 0)=some (.int .i64 p)/\Br (p == 0) (∃x y z,d.cell? (c.add 13)=some (.slice x y z)/\Calls pg 23 #[.slice x y z] d (fun en af=>∃A B C D q,en=.returned (.tuple #[.agg #[.bool A,.int .u8 B,.int .u8 C,.int .u16 D],.bool q])/\gNew #[.bool false,.int .u8 0,.int .u8 0,.int .u16 0] 42 (fun j ag=>∃b,StV pg 42 j (.agg #[.bool A,.int .u8 B,.int .u8 C,.int .u16 D]) ag b/\∃i:Option Nat,Rk ((c.add 13)) i b.drew (∃e f g,b.drew.cell? (c.add 13)=some (.slice e f g)/\Br q (Rk j i b.drew (∃E F G H,LdV pg 42 j (.agg #[.bool E,.int .u8 F,.int .u8 G,.int .u16 H]) b.drew/\Calls pg 57 #[.agg #[.bool E,.int .u8 F,.int .u8 G,.int .u16 H]] b.drew (fun en a=>∃r,en=.returned (.int .i64 r)/\b.drew.grownBy a i/\Br (r == 0) (∃s,a.cell? (j.add 2)=some (.int .u8 s)/\b.drew.grownBy a i/\Br (s != 207) ((∃I,a.cell? (j.add 3)=some (.int .u16 I)/\b.drew.grownBy a i/\∃ah J ai,a.cell? (c.add 13)=some (.slice ah J ai)/\b.drew.grownBy a i/\R (.returned (.tuple #[.slice e f g,.bool ((i64.wrap (4*(i64.wrap ((i64.wrap I)+1)))) == (J:Int))])) a)/\(∃aj K ak,a.cell? (c.add 13)=some (.slice aj K ak)/\b.drew.grownBy a i/\∃L,a.cell? (j.add 3)=some (.int .u16 L)/\b.drew.grownBy a i/\R (.returned (.tuple #[.slice e f g,.bool ((i64.wrap (4*(i64.wrap ((i64.wrap L)+1)))) == (K:Int))])) a)) ((R (.returned (.tuple #[.slice e f g,.bool false])) a)/\(R (.returned (.tuple #[.slice e f g,.bool false])) a))) ((R (.returned (.tuple #[.slice e f g,.bool false])) a)/\(R (.returned (.tuple #[.slice e f g,.bool false])) a))))) ((R (.returned (.tuple #[.slice e f g,.bool false])) b.drew)/\(R (.returned (.tuple #[.slice e f g,.bool false])) b.drew)))) af)) (∃M,LdV pg 63 c (M) d/\Calls pg 88 #[M] d (fun en al=>∃N O P Q S k T t,en=.returned (.tuple #[.agg #[.bool N,.int .u8 O,.int .u8 P,.int .u16 Q],.slice S k T,.bool t])/\gNew #[.bool false,.int .u8 0,.int .u8 0,.int .u16 0] 42 (fun u am=>∃m,StV pg 42 u (.agg #[.bool N,.int .u8 O,.int .u8 P,.int .u16 Q]) am m/\Br (!t) (R (.returned (.tuple #[.slice none 0 0,.bool false])) m) (Br (decide ((k:Int) > 262140)) (R (.returned (.tuple #[.slice none 0 0,.bool false])) m) ((4:Int)≠0/\∃v,StV pg 40 (u.add 3) (.int .u16 (u16.wrap (i64.wrap ((k:Int).tdiv 4)))) m v/\∃U V W X,LdV pg 42 u (.agg #[.bool U,.int .u8 V,.int .u8 W,.int .u16 X]) v/\Calls pg 21 #[.agg #[.bool U,.int .u8 V,.int .u8 W,.int .u16 X]] v (fun en an=>∃Y Z aa ao,en=.returned (.tuple #[.slice Y Z aa,.bool ao])/\∃ab ac ad ae,(Builtin.append_ #[22,22] 22 #[.slice Y Z aa,.slice S k T]).run pg an=.ok (.slice ab ac ad) ae/\R (.returned (.tuple #[.slice ab ac ad,.bool true])) ae)))) al))))) w
theorem of48 {l R w} (h:SW48 l R w):Calls pg 48 #[l] w R:=
  calls_by H48 _ Tryz.func48 h
def H49:Hints:=⟨[],[],[]⟩
def SW49 (b:Option Addr) (c d:Nat) (a:Int) (R:RT) (w:World):Prop:=
  gNew #[.int .u8 (u8.wrap (ishr .u16 a 8)),.int .u8 (u8.wrap a)] 5 (fun j k=>∃e f g i,(Builtin.append_ #[22,22] 22 #[.slice b c d,.slice (some j) 2 2]).run pg k=.ok (.slice e f g) i/\R (.returned (.slice e f g)) i) w
theorem of49 {b c d a R w} (h:SW49 b c d a R w):Calls pg 49 #[.slice b c d,.int .u16 a] w R:=
  calls_by H49 _ Tryz.func49 h
def H52:Hints:=⟨[(6,[0,0,3],7,ons [3,0,5] .done),(7,[0,1,2,0,8,16,36,127,255],384,ons [1,3,5,7,9,11,13,15,16] .done),(9,[0,1,0,4,10],31,ons [1,3,5,6,8] .done)],[],[(5,[],rg 11 7)]⟩
def SW52 (f:Bool) (g:Int) (i:Int) (j:Int) (R:RT) (w:World):Prop:=
  gNew (#[.bool f,.int .u8 g,.int .u8 i,.int .u16 j]) 109 (fun d H=>∃b a k l,(Instr.makeSlice 22 (.int .i64 4) (.int .i64 4)).run pg H=.ok (.slice b a k) l/\∃r,Ix b r 0 a (∃s,l.cell? (r.add ((0:Int).toNat*1))=some (.int .u8 s)/\∃t,Ix b t 0 a (∃e,StV pg 5 (t.add ((0:Int).toNat*1)) (.int .u8 (ior .u8 s 128)) l e/\∃m:NP,(∃n,e.cell? (d.add 0)=some (.bool n)/\Br n (∃u,Ix b u 0 a (∃v,e.cell? (u.add ((0:Int).toNat*1))=some (.int .u8 v)/\∃x,Ix b x 0 a (∃y,StV pg 5 (x.add ((0:Int).toNat*1)) (.int .u8 (ior .u8 v 32)) e y/\m 0 y))) (m 0 e))/\∀(J:NV)  (c:World),m 0 c->∃o,c.cell? (d.add 1)=some (.int .u8 o)/\Br (decide (o > 31)) (∃z,c.drew.cell? (⟨0,0,none⟩)=some (z)/\R (.returned (.tuple #[.slice none 0 0,z])) c.drew) (∃A,Ix b A 0 a (∃B,c.drew.cell? (A.add ((0:Int).toNat*1))=some (.int .u8 B)/\∃C,c.drew.cell? (d.add 1)=some (.int .u8 C)/\∃D,Ix b D 0 a (∃p,StV pg 5 (D.add ((0:Int).toNat*1)) (.int .u8 (ior .u8 B (ishl .u8 C 0))) c.drew p/\∃E,p.cell? (d.add 2)=some (.int .u8 E)/\∃F,Ix b F 1 a (∃q,StV pg 5 (F.add ((1:Int).toNat*1)) (.int .u8 E) p q/\0<=(2:Int)/\2<=(a:Int)/\∃G,q.drew.cell? (d.add 3)=some (.int .u16 G)/\Calls pg 89 #[.slice (cutA b 2 k 1) (a - 2) (k - 2),.int .u16 G] q.drew (fun en I=>en=.returned (.tuple #[])/\R (.returned (.tuple #[.slice b a k,.nilIface])) I)))))))) w
theorem of52 {f g i j R w} (h:SW52 f g i j R w):Calls pg 52 #[.agg #[.bool f,.int .u8 g,.int .u8 i,.int .u16 j]] w R:=
  calls_by H52 _ Tryz.func52 h
def H53:Hints:=⟨[(1,[0,1,2,4,8,0,32,64,128,272,1023],1024,ons [1,3,5,7,9,11,13,15,17,19,21] .done)],[],[]⟩
def SW53 (a:Option Addr) (b c:Nat) (R:RT) (w:World):Prop:=
  ∃d,Ix a d 0 b (∃e,w.drew.cell? (d.add ((0:Int).toNat*1))=some (.int .u8 e)/\∃f,Ix a f 1 b (∃g,w.drew.cell? (f.add ((1:Int).toNat*1))=some (.int .u8 g)/\R (.returned (.int .u16 (ior .u16 (ishl .u16 (u16.wrap e) 8) (u16.wrap g)))) w.drew))
theorem of53 {a b c R w} (h:SW53 a b c R w):Calls pg 53 #[.slice a b c] w R:=
  calls_by H53 _ Tryz.func53 h
def H55:Hints:=⟨[],[],[]⟩
def SW55 (c:Option Addr) (b:Option Addr) (a d:Nat) (R:RT) (w:World):Prop:=
  Br (decide ((a:Int) < 4)) (∃i,w.cell? (⟨1,0,none⟩)=some (i)/\R (.returned (i)) w) (∃j,Ix b j 0 a (∃e,w.cell? (j.add ((0:Int).toNat*1))=some (.int .u8 e)/\Br ((iand .u8 (ishr .u8 e 6) 3) != 2) (∃k,w.cell? (⟨2,0,none⟩)=some (k)/\R (.returned (k)) w) (∃l,Ix b l 0 a (∃m,w.cell? (l.add ((0:Int).toNat*1))=some (.int .u8 m)/\∃n,c=some n/\∃f,StV pg 4 (n.add 0) (.bool (decide ((iand .u8 (ishr .u8 m 5) 1) > 0))) w f/\∃o,Ix b o 0 a (∃p,f.cell? (o.add ((0:Int).toNat*1))=some (.int .u8 p)/\∃q,c=some q/\∃g,StV pg 5 (q.add 1) (.int .u8 (iand .u8 (ishr .u8 p 0) 31)) f g/\∃r,Ix b r 1 a (∃s,g.cell? (r.add ((1:Int).toNat*1))=some (.int .u8 s)/\∃t,c=some t/\∃u,StV pg 107 (t.add 2) (.int .u8 s) g u/\0<=(2:Int)/\2<=(a:Int)/\Calls pg 90 #[.slice (cutA b 2 d 1) (a - 2) (d - 2)] u (fun en z=>∃v,en=.returned (.int .u16 v)/\∃x,c=some x/\∃y,StV pg 40 (x.add 3) (.int .u16 v) z y/\R (.returned (.nilIface)) y)))))))
theorem of55 {c b a d R w} (h:SW55 c b a d R w):Calls pg 55 #[.pointer c,.slice b a d] w R:=
  calls_by H55 _ Tryz.func55 h
def H57:Hints:=⟨[],[],[]⟩
def SW57 (e:Bool) (f:Int) (g:Int) (i:Int) (R:RT) (w:World):Prop:=
  gNew (#[.bool e,.int .u8 f,.int .u8 g,.int .u16 i]) 42 (fun j a=>∃b,a.cell? (j.add 2)=some (.int .u8 b)/\Br (b == 200) (R (.returned (.int .i64 1)) a) (Br (b == 201) (R (.returned (.int .i64 2)) a) (Br (b == 202) (R (.returned (.int .i64 3)) a) (Br (b == 203) (R (.returned (.int .i64 4)) a) (Br (b == 204) (R (.returned (.int .i64 5)) a) (Br (b == 205) (∃c,a.cell? (j.add 1)=some (.int .u8 c)/\Br (c == 1) (R (.returned (.int .i64 6)) a) (Br (c == 5) (R (.returned (.int .i64 7)) a) (Br (c == 11) (R (.returned (.int .i64 8)) a) (Br (c == 15) (R (.returned (.int .i64 13)) a) (R (.returned (.int .i64 0)) a))))) (Br (b == 206) (∃d,a.cell? (j.add 1)=some (.int .u8 d)/\Br (d == 1) (R (.returned (.int .i64 9)) a) (Br (d == 2) (R (.returned (.int .i64 10)) a) (Br (d == 4) (R (.returned (.int .i64 11)) a) (Br (d == 15) (R (.returned (.int .i64 12)) a) (R (.returned (.int .i64 0)) a))))) (R (.returned (.int .i64 0)) a)))))))) w
theorem of57 {e f g i R w} (h:SW57 e f g i R w):Calls pg 57 #[.agg #[.bool e,.int .u8 f,.int .u8 g,.int .u16 i]] w R:=
  calls_by H57 _ Tryz.func57 h
def H65:Hints:=⟨[(3,[0,1,0,4,0,16,0,64,0,256,0,1024,2048,0,8192,20480,37546,65536,131072,524287],524288,ons [1,3,5,7,9,11,13,15,17,19,21,23,27,29,24,30,33,34,37,39] .done),(5,[0,1,0,4,8,0,32,80,146,256,512,2047],2048,ons [1,3,5,7,11,13,8,14,17,18,21,23] .done),(9,[0,1,2,0,8,20,32,64,255],256,ons [1,3,7,9,4,11,12,15,17] .done),(11,[0,1,0,4,0,16,0,64,128,298,512,1024,4095],4096,ons [1,3,5,7,9,11,13,15,16,19,20,23,25] .done),(17,[0,0,2,4,8,0,32,0,128,320,512,1040,4095,8191,12287],28672,ons [1,3,5,7,9,11,13,15,17,19,20,22,25,27,28] .done),(23,[0,1,0,4,8,0,32,82,128,256,1023],1024,ons [1,3,5,7,11,13,8,15,16,19,21] .done),(31,[0,0,2,4,8,0,32,0,128,0,512,1344,2048,4112,16383,32767,49151],114688,ons [1,3,5,7,9,11,13,15,17,19,21,23,24,26,29,31,32] .done),(39,[0,0,2,4,8,0,32,0,128,320,512,1040,4095,8191,12287],28672,ons [1,3,5,7,9,11,13,15,17,19,20,22,25,27,28] .done),(43,[0,1,0,4,8,0,32,80,146,256,512,2047],2048,ons [1,3,5,7,11,13,8,14,17,18,21,23] .done)],[(1,[(90,3)],[5]++rg 90 19),(3,[(152,3)],[8]++rg 152 21),(5,[(186,3)],[11]++rg 186 19)],[]⟩
def SW65 (v:Value) (R:RT) (w:World):Prop:=
  gNew (v.cells) 75 (fun b a=>∃c,a.cell? (b.add 0)=some (.int .i64 c)/\Br (c == 1) (∃e:Option Nat,Rk ((b.add 1)) e a.drew (∃Z,a.drew.cell? (b.add 1)=some (.int .u32 Z)/\Rk ((b.add 3)) e a.drew (∃x6,a.drew.cell? (b.add 3)=some (.int .u64 x6)/\Rk ((b.add 4)) e a.drew (∃x7,a.drew.cell? (b.add 4)=some (.int .u32 x7)/\Rk ((b.add 5)) e a.drew (∃x8,a.drew.cell? (b.add 5)=some (.int .u32 x8)/\Rk ((b.add 6)) e a.drew (∃x9,a.drew.cell? (b.add 6)=some (.int .u32 x9)/\Rk ((b.add 7)) e a.drew (∃ae af ag,a.drew.cell? (b.add 7)=some (.slice ae af ag)/\Rk ((b.add 8)) e a.drew (∃ah ai aj,a.drew.cell? (b.add 8)=some (.slice ah ai aj)/\Calls pg 96 #[.slice ae af ag] a.drew (fun en ak=>∃al am an,en=.returned (.slice al am an)/\a.drew.grownBy ak e/\Calls pg 37 #[.slice ah ai aj] ak (fun en ao=>∃ap aq ar,en=.returned (.slice ap aq ar)/\a.drew.grownBy ao e/\gNew (#[.int .u32 Z,.int .u64 x6,.int .u32 x7,.int .u32 x8,.int .u32 x9,.slice al am an,.slice ap aq ar]) 194 (fun cH au=>a.drew.grownBy au e/\R (.returned (.iface 190 (.pointer (some cH)))) au) ao)))))))))) (Br (c == 2) (∃j:Option Nat,Rk ((b.add 1)) j a.drew (∃av,a.drew.cell? (b.add 1)=some (.int .u32 av)/\Rk ((b.add 7)) j a.drew (∃ax ay az,a.drew.cell? (b.add 7)=some (.slice ax ay az)/\Rk ((b.add 8)) j a.drew (∃aA aB aC,a.drew.cell? (b.add 8)=some (.slice aA aB aC)/\Calls pg 96 #[.slice ax ay az] a.drew (fun en aD=>∃aE aF aG,en=.returned (.slice aE aF aG)/\a.drew.grownBy aD j/\Calls pg 37 #[.slice aA aB aC] aD (fun en aH=>∃aI aJ aK,en=.returned (.slice aI aJ aK)/\a.drew.grownBy aH j/\gNew (#[.int .u32 av,.slice aE aF aG,.slice aI aJ aK]) 197 (fun cI aL=>a.drew.grownBy aL j/\R (.returned (.iface 195 (.pointer (some cI)))) aL) aH)))))) (Br (c == 3) (∃aM aN aO,a.cell? (b.add 9)=some (.slice aM aN aO)/\Calls pg 97 #[.slice aM aN aO] a (fun en cJ=>∃aP,en=.returned (.pointer aP)/\R (.returned (.iface 198 (.pointer aP))) cJ)) (Br (c == 4) (∃x:Option Nat,Rk ((b.add 10)) x a.drew (∃aQ aS aT,a.drew.cell? (b.add 10)=some (.slice aQ aS aT)/\Rk ((b.add 11)) x a.drew (∃aU,a.drew.cell? (b.add 11)=some (.string aU)/\Calls pg 98 #[.slice aQ aS aT] a.drew (fun en aV=>∃aW aX aY,en=.returned (.slice aW aX aY)/\a.drew.grownBy aV x/\gNew (#[.slice aW aX aY,.string aU]) 203 (fun cK aZ=>a.drew.grownBy aZ x/\R (.returned (.iface 200 (.pointer (some cK)))) aZ) aV)))) (Br (c == 5) (∃k:Option Nat,Rk ((b.add 12)) k a.drew (∃a0,a.drew.cell? (b.add 12)=some (.int .u8 a0)/\Rk ((b.add 1)) k a.drew (∃a1,a.drew.cell? (b.add 1)=some (.int .u32 a1)/\Rk ((b.add 11)) k a.drew (∃a2,a.drew.cell? (b.add 11)=some (.string a2)/\Rk ((b.add 13)) k a.drew (∃a3 a4 a5,a.drew.cell? (b.add 13)=some (.slice a3 a4 a5)/\Calls pg 37 #[.slice a3 a4 a5] a.drew (fun en a6=>∃a7 a8 a9,en=.returned (.slice a7 a8 a9)/\a.drew.grownBy a6 k/\gNew (#[.int .u8 a0,.int .u32 a1,.string a2,.slice a7 a8 a9]) 206 (fun cL ba=>a.drew.grownBy ba k/\R (.returned (.iface 204 (.pointer (some cL)))) ba) a6)))))) (Br (c == 6) (∃bb,a.cell? (b.add 1)=some (.int .u32 bb)/\∃bc,a.cell? (b.add 2)=some (.int .u32 bc)/\gNew (#[.int .u32 bb,.int .u32 bc,.slice none 0 0]) 210 (fun E bd=>∃be y cM,bd.cell? (b.add 14)=some (.slice be y cM)/\∃F:Int->NP,(∃cN,F 0 cN bd)/\∀(c8:NV) (l:Int) (bf:Nat) (z:World),F l bf z->Br (decide (l < (y:Int))) (∃bg,Ix be bg l y (∃bh bi,LdV pg 171 (bg.add (l.toNat*2)) (.agg #[.int .u16 bh,.int .u16 bi]) z/\gNew #[.int .u16 0,.int .u16 0] 171 (fun q cO=>∃f,StV pg 171 q (.agg #[.int .u16 bh,.int .u16 bi]) cO f/\∃r:Option Nat,∃G,some E=some G/\Rk ((G.add 2)) r f.drew (∃bj bk bl,f.drew.cell? (G.add 2)=some (.slice bj bk bl)/\Rk ((q.add 0)) r f.drew (∃H,f.drew.cell? (q.add 0)=some (.int .u16 H)/\Rk ((q.add 1)) r f.drew (∃I,f.drew.cell? (q.add 1)=some (.int .u16 I)/\((.agg #[.int .u16 H,.int .u16 I]:Value).cells).size=2/\gNew (#[.int .u16 H,.int .u16 I]) 213 (fun cP bm=>f.drew.grownBy bm r/\∃bn bo bp J,(Builtin.append_ #[208,208] 208 #[.slice bj bk bl,.slice (some cP) 1 1]).run pg bm=.ok (.slice bn bo bp) J/\f.drew.grownBy J r/\∃bq,some E=some bq/\∃br,StV pg 208 (bq.add 2) (.slice bn bo bp) J br/\∃bs,bs < bf/\F (i64.wrap (l+1)) bs br) f.drew)))) z)) (R (.returned (.iface 207 (.pointer (some E)))) z)) a) (Br (c == 7) (∃bt,a.cell? (b.add 1)=some (.int .u32 bt)/\∃bu,a.cell? (b.add 2)=some (.int .u32 bu)/\gNew (#[.int .u32 bt,.int .u32 bu]) 216 (fun cQ cS=>R (.returned (.iface 214 (.pointer (some cQ)))) cS) a) (Br (c == 8) (∃s:Option Nat,Rk ((b.add 1)) s a.drew (∃bv,a.drew.cell? (b.add 1)=some (.int .u32 bv)/\Rk ((b.add 18)) s a.drew (∃bx bz bA,a.drew.cell? (b.add 18)=some (.slice bx bz bA)/\Rk ((b.add 19)) s a.drew (∃bB,a.drew.cell? (b.add 19)=some (.int .u32 bB)/\Calls pg 99 #[.slice bx bz bA] a.drew (fun en bC=>∃bD bE bF,en=.returned (.slice bD bE bF)/\a.drew.grownBy bC s/\gNew (#[.int .u32 bv,.slice bD bE bF,.int .u32 bB]) 221 (fun cT bG=>a.drew.grownBy bG s/\R (.returned (.iface 217 (.pointer (some cT)))) bG) bC))))) (Br (c == 9) (∃bH,a.cell? (b.add 1)=some (.int .u32 bH)/\∃bI,a.cell? (b.add 2)=some (.int .u32 bI)/\gNew (#[.int .u32 bH,.int .u32 bI]) 223 (fun cU cV=>R (.returned (.iface 222 (.pointer (some cU)))) cV) a) (Br (c == 10) (∃bJ,a.cell? (b.add 1)=some (.int .u32 bJ)/\∃bK,a.cell? (b.add 2)=some (.int .u32 bK)/\gNew (#[.int .u32 bJ,.int .u32 bK,.slice none 0 0]) 227 (fun K bL=>∃bM A cW,bL.cell? (b.add 15)=some (.slice bM A cW)/\∃L:Int->NP,(∃cX,L 0 cX bL)/\∀(c9:NV) (m:Int) (bN:Nat) (B:World),L m bN B->Br (decide (m < (A:Int))) (∃bO,Ix bM bO m A (∃bP bQ bS,LdV pg 172 (bO.add (m.toNat*3)) (.agg #[.int .u16 bP,.int .u16 bQ,.int .u8 bS]) B/\gNew #[.int .u16 0,.int .u16 0,.int .u8 0] 172 (fun i cY=>∃d,StV pg 172 i (.agg #[.int .u16 bP,.int .u16 bQ,.int .u8 bS]) cY d/\∃n:Option Nat,∃M,some K=some M/\Rk ((M.add 2)) n d.drew (∃bT bU bV,d.drew.cell? (M.add 2)=some (.slice bT bU bV)/\Rk ((i.add 0)) n d.drew (∃N,d.drew.cell? (i.add 0)=some (.int .u16 N)/\Rk ((i.add 1)) n d.drew (∃O,d.drew.cell? (i.add 1)=some (.int .u16 O)/\Rk ((i.add 2)) n d.drew (∃P,d.drew.cell? (i.add 2)=some (.int .u8 P)/\((.agg #[.int .u16 N,.int .u16 O,.int .u8 P]:Value).cells).size=3/\gNew (#[.int .u16 N,.int .u16 O,.int .u8 P]) 228 (fun cZ bW=>d.drew.grownBy bW n/\∃bX bY bZ Q,(Builtin.append_ #[225,225] 225 #[.slice bT bU bV,.slice (some cZ) 1 1]).run pg bW=.ok (.slice bX bY bZ) Q/\d.drew.grownBy Q n/\∃b0,some K=some b0/\∃b1,StV pg 225 (b0.add 2) (.slice bX bY bZ) Q b1/\∃b2,b2 < bN/\L (i64.wrap (m+1)) b2 b1) d.drew))))) B)) (R (.returned (.iface 224 (.pointer (some K)))) B)) a) (Br (c == 11) (∃b3,a.cell? (b.add 1)=some (.int .u32 b3)/\∃b4,a.cell? (b.add 2)=some (.int .u32 b4)/\gNew (#[.int .u32 b3,.int .u32 b4,.slice none 0 0]) 232 (fun S b5=>∃b6 C c0,b5.cell? (b.add 16)=some (.slice b6 C c0)/\∃T:Int->NP,(∃c1,T 0 c1 b5)/\∀(da:NV) (o:Int) (b7:Nat) (D:World),T o b7 D->Br (decide (o < (C:Int))) (∃b8,Ix b6 b8 o C (∃b9 ca,LdV pg 173 (b8.add (o.toNat*2)) (.agg #[.int .u32 b9,.int .u8 ca]) D/\gNew #[.int .u32 0,.int .u8 0] 173 (fun t c2=>∃g,StV pg 173 t (.agg #[.int .u32 b9,.int .u8 ca]) c2 g/\∃u:Option Nat,∃U,some S=some U/\Rk ((U.add 2)) u g.drew (∃cb cc cd,g.drew.cell? (U.add 2)=some (.slice cb cc cd)/\Rk ((t.add 0)) u g.drew (∃V,g.drew.cell? (t.add 0)=some (.int .u32 V)/\Rk ((t.add 1)) u g.drew (∃W,g.drew.cell? (t.add 1)=some (.int .u8 W)/\((.agg #[.int .u32 V,.int .u8 W]:Value).cells).size=2/\gNew (#[.int .u32 V,.int .u8 W]) 234 (fun c3 ce=>g.drew.grownBy ce u/\∃cf cg ch X,(Builtin.append_ #[230,230] 230 #[.slice cb cc cd,.slice (some c3) 1 1]).run pg ce=.ok (.slice cf cg ch) X/\g.drew.grownBy X u/\∃ci,some S=some ci/\∃cj,StV pg 230 (ci.add 2) (.slice cf cg ch) X cj/\∃ck,ck < b7/\T (i64.wrap (o+1)) ck cj) g.drew)))) D)) (R (.returned (.iface 229 (.pointer (some S)))) D)) a) (Br (c == 12) (∃p:Option Nat,Rk ((b.add 1)) p a.drew (∃cl,a.drew.cell? (b.add 1)=some (.int .u32 cl)/\Rk ((b.add 17)) p a.drew (∃cm,a.drew.cell? (b.add 17)=some (.int .u32 cm)/\Rk ((b.add 10)) p a.drew (∃cn co cp,a.drew.cell? (b.add 10)=some (.slice cn co cp)/\∃cq Y,(callFunc 100 #[.int .u32 cm]).run pg a.drew=.ok (.value (.float .f32 cq)) Y/\a.drew.grownBy Y p/\Calls pg 98 #[.slice cn co cp] Y (fun en cr=>∃cs ct cu,en=.returned (.slice cs ct cu)/\a.drew.grownBy cr p/\gNew (#[.int .u32 cl,.float .f32 cq,.slice cs ct cu]) 239 (fun c4 cv=>a.drew.grownBy cv p/\R (.returned (.iface 235 (.pointer (some c4)))) cv) cr))))) (Br (c == 13) (∃cx,LdV pg 75 b (cx) a/\Calls pg 101 #[cx] a (fun en c5=>∃cy,en=.returned (.pointer cy)/\R (.returned (.iface 240 (.pointer cy))) c5)) (∃cz cA cB,a.cell? (b.add 13)=some (.slice cz cA cB)/\Calls pg 37 #[.slice cz cA cB] a (fun en c6=>∃cC cD cE,en=.returned (.slice cC cD cE)/\gNew #[.slice none 0 0] 129 (fun cF c7=>∃cG,StV pg 129 cF (.slice cC cD cE) c7 cG/\R (.returned (.iface 242 (.pointer (some cF)))) cG) c6))))))))))))))) w
theorem of65 {v R w} (h:SW65 v R w):Calls pg 65 #[v] w R:=
  calls_by H65 _ Tryz.func65 h
def H66:Hints:=⟨[(4,[0,1,2,4,0,16,32,64,0,256,512,1024,0,4096,8192,16384,0,65536,131072,262144,0,1048576,2097152,4194304,8388608,0,33554432,67108864,134217728,285212672,554207368,2147483647],2147483648,ons [1,3,5,7,9,11,13,15,17,19,21,23,25,27,29,31,33,35,37,39,41,43,45,47,51,53,55,57,48,58,61,62] .done),(7,[0,1,2,4,0,16,32,64,128,0,512,1024,2048,4352,8456,32767],32768,ons [1,3,5,7,9,11,13,15,19,21,23,25,16,26,29,30] .done),(13,[0,1,2,4,8,0,32,64,128,272,1023],1024,ons [1,3,5,7,11,13,15,17,8,19,20] .done),(16,[0,1,2,4,0,16,32,64,0,256,512,1024,0,4096,8192,16384,32768,67720,262143],262144,ons [1,3,5,7,9,11,13,15,17,19,21,23,25,27,29,31,32,35,36] .done),(19,[0,1,2,4,0,16,32,64,136,0,1023],1024,ons [1,3,5,7,9,11,13,15,17,18,20] .done),(28,[0,1,2,4,0,16,32,64,136,511],512,ons [1,3,5,7,9,11,13,15,17,18] .done),(31,[0,1,2,4,0,16,32,64,128,0,512,1024,2048,4360,16383],16384,ons [1,3,5,7,9,11,13,15,19,21,23,25,16,27,28] .done),(34,[0,1,2,4,0,16,32,64,136,511],512,ons [1,3,5,7,9,11,13,15,17,18] .done),(37,[0,1,2,4,0,16,32,64,136,0,1023],1024,ons [1,3,5,7,9,11,13,15,17,18,20] .done),(46,[0,1,2,4,0,16,32,64,136,0,1023],1024,ons [1,3,5,7,9,11,13,15,17,18,20] .done),(55,[0,1,2,4,0,16,32,64,128,0,512,1024,2048,4352,8456,32767],32768,ons [1,3,5,7,9,11,13,15,19,21,23,25,16,26,29,30] .done)],[(1,[(136,3)],[11]++rg 136 15),(3,[(210,3)],[18]++rg 210 17),(5,[(245,3)],[22]++rg 245 15)],[]⟩
def SW66 (c:Value) (R:RT) (w:World):Prop:=
  gNew #[.int .i64 0,.int .u32 0,.int .u32 0,.int .u64 0,.int .u32 0,.int .u32 0,.int .u32 0,.slice none 0 0,.slice none 0 0,.slice none 0 0,.slice none 0 0,.string (ByteArray.mk #[]),.int .u8 0,.slice none 0 0,.slice none 0 0,.slice none 0 0,.slice none 0 0,.int .u32 0,.slice none 0 0,.int .u32 0,.int .u16 0,.int .u16 0,.int .u32 0,.int .u8 0,.slice none 0 0,.slice none 0 0,.bool false,.int .u8 0,.int .u8 0,.int .u16 0] 75 (fun b a=>∃e:Option Addr,∃I:Bool,(∀wx,(Instr.typeAssert c 123 190 true).run pg wx=.ok (.tuple #[.pointer e,.bool I]) wx)/\Br I (∃d:Option Nat,∃J,e=some J/\Rk ((J.add 0)) d a.drew (∃x7,a.drew.cell? (J.add 0)=some (.int .u32 x7)/\∃K,e=some K/\Rk ((K.add 1)) d a.drew (∃x9,a.drew.cell? (K.add 1)=some (.int .u64 x9)/\∃L,e=some L/\Rk ((L.add 2)) d a.drew (∃bh,a.drew.cell? (L.add 2)=some (.int .u32 bh)/\∃M,e=some M/\Rk ((M.add 3)) d a.drew (∃bi,a.drew.cell? (M.add 3)=some (.int .u32 bi)/\∃N,e=some N/\Rk ((N.add 4)) d a.drew (∃bj,a.drew.cell? (N.add 4)=some (.int .u32 bj)/\∃O,e=some O/\Rk ((O.add 5)) d a.drew (∃bk bl bm,a.drew.cell? (O.add 5)=some (.slice bk bl bm)/\∃P,e=some P/\Rk ((P.add 6)) d a.drew (∃bn bo bp,a.drew.cell? (P.add 6)=some (.slice bn bo bp)/\Calls pg 102 #[.slice bk bl bm] a.drew (fun en bq=>∃br bs bt,en=.returned (.slice br bs bt)/\a.drew.grownBy bq d/\Calls pg 37 #[.slice bn bo bp] bq (fun en bu=>∃bv bx bz,en=.returned (.slice bv bx bz)/\a.drew.grownBy bu d/\∃Q,StV pg 75 b (.agg #[.int .i64 1,.int .u32 x7,.int .u32 0,.int .u64 x9,.int .u32 bh,.int .u32 bi,.int .u32 bj,.slice br bs bt,.slice bv bx bz,.slice none 0 0,.slice none 0 0,.string (ByteArray.mk #[]),.int .u8 0,.slice none 0 0,.slice none 0 0,.slice none 0 0,.slice none 0 0,.int .u32 0,.slice none 0 0,.int .u32 0,.int .u16 0,.int .u16 0,.int .u32 0,.int .u8 0,.slice none 0 0,.slice none 0 0,.bool false,.int .u8 0,.int .u8 0,.int .u16 0]) bu Q/\∃bA,LdV pg 75 b (bA) Q/\R (.returned (bA)) Q)))))))))) (∃t:Option Addr,∃S:Bool,(∀wx,(Instr.typeAssert c 123 195 true).run pg wx=.ok (.tuple #[.pointer t,.bool S]) wx)/\Br S (∃k:Option Nat,∃T,t=some T/\Rk ((T.add 0)) k a.drew (∃bB,a.drew.cell? (T.add 0)=some (.int .u32 bB)/\∃U,t=some U/\Rk ((U.add 1)) k a.drew (∃bC bD bE,a.drew.cell? (U.add 1)=some (.slice bC bD bE)/\∃V,t=some V/\Rk ((V.add 2)) k a.drew (∃bF bG bH,a.drew.cell? (V.add 2)=some (.slice bF bG bH)/\Calls pg 102 #[.slice bC bD bE] a.drew (fun en bI=>∃bJ bK bL,en=.returned (.slice bJ bK bL)/\a.drew.grownBy bI k/\Calls pg 37 #[.slice bF bG bH] bI (fun en bM=>∃bN bO bP,en=.returned (.slice bN bO bP)/\a.drew.grownBy bM k/\∃W,StV pg 75 b (.agg #[.int .i64 2,.int .u32 bB,.int .u32 0,.int .u64 0,.int .u32 0,.int .u32 0,.int .u32 0,.slice bJ bK bL,.slice bN bO bP,.slice none 0 0,.slice none 0 0,.string (ByteArray.mk #[]),.int .u8 0,.slice none 0 0,.slice none 0 0,.slice none 0 0,.slice none 0 0,.int .u32 0,.slice none 0 0,.int .u32 0,.int .u16 0,.int .u16 0,.int .u32 0,.int .u8 0,.slice none 0 0,.slice none 0 0,.bool false,.int .u8 0,.int .u8 0,.int .u16 0]) bM W/\∃bQ,LdV pg 75 b (bQ) W/\R (.returned (bQ)) W)))))) (∃bS:Option Addr,∃X:Bool,(∀wx,(Instr.typeAssert c 123 198 true).run pg wx=.ok (.tuple #[.pointer bS,.bool X]) wx)/\Br X (Calls pg 103 #[.pointer bS] a (fun en d3=>∃bT bU bV,en=.returned (.slice bT bU bV)/\∃Y,StV pg 75 b (.agg #[.int .i64 3,.int .u32 0,.int .u32 0,.int .u64 0,.int .u32 0,.int .u32 0,.int .u32 0,.slice none 0 0,.slice none 0 0,.slice bT bU bV,.slice none 0 0,.string (ByteArray.mk #[]),.int .u8 0,.slice none 0 0,.slice none 0 0,.slice none 0 0,.slice none 0 0,.int .u32 0,.slice none 0 0,.int .u32 0,.int .u16 0,.int .u16 0,.int .u32 0,.int .u8 0,.slice none 0 0,.slice none 0 0,.bool false,.int .u8 0,.int .u8 0,.int .u16 0]) d3 Y/\∃bW,LdV pg 75 b (bW) Y/\R (.returned (bW)) Y)) (∃Z:Option Addr,∃aa:Bool,(∀wx,(Instr.typeAssert c 123 200 true).run pg wx=.ok (.tuple #[.pointer Z,.bool aa]) wx)/\Br aa (∃ab:Option Nat,∃ac,Z=some ac/\Rk ((ac.add 0)) ab a.drew (∃bX bY bZ,a.drew.cell? (ac.add 0)=some (.slice bX bY bZ)/\∃ad,Z=some ad/\Rk ((ad.add 1)) ab a.drew (∃b0,a.drew.cell? (ad.add 1)=some (.string b0)/\Calls pg 98 #[.slice bX bY bZ] a.drew (fun en b1=>∃b2 b3 b4,en=.returned (.slice b2 b3 b4)/\a.drew.grownBy b1 ab/\∃ae,StV pg 75 b (.agg #[.int .i64 4,.int .u32 0,.int .u32 0,.int .u64 0,.int .u32 0,.int .u32 0,.int .u32 0,.slice none 0 0,.slice none 0 0,.slice none 0 0,.slice b2 b3 b4,.string b0,.int .u8 0,.slice none 0 0,.slice none 0 0,.slice none 0 0,.slice none 0 0,.int .u32 0,.slice none 0 0,.int .u32 0,.int .u16 0,.int .u16 0,.int .u32 0,.int .u8 0,.slice none 0 0,.slice none 0 0,.bool false,.int .u8 0,.int .u8 0,.int .u16 0]) b1 ae/\∃b5,LdV pg 75 b (b5) ae/\R (.returned (b5)) ae)))) (∃l:Option Addr,∃af:Bool,(∀wx,(Instr.typeAssert c 123 204 true).run pg wx=.ok (.tuple #[.pointer l,.bool af]) wx)/\Br af (∃m:Option Nat,∃ag,l=some ag/\Rk ((ag.add 0)) m a.drew (∃b6,a.drew.cell? (ag.add 0)=some (.int .u8 b6)/\∃ah,l=some ah/\Rk ((ah.add 1)) m a.drew (∃b7,a.drew.cell? (ah.add 1)=some (.int .u32 b7)/\∃ai,l=some ai/\Rk ((ai.add 2)) m a.drew (∃b8,a.drew.cell? (ai.add 2)=some (.string b8)/\∃aj,l=some aj/\Rk ((aj.add 3)) m a.drew (∃b9 ca cb,a.drew.cell? (aj.add 3)=some (.slice b9 ca cb)/\Calls pg 37 #[.slice b9 ca cb] a.drew (fun en cc=>∃cd ce cf,en=.returned (.slice cd ce cf)/\a.drew.grownBy cc m/\∃ak,StV pg 75 b (.agg #[.int .i64 5,.int .u32 b7,.int .u32 0,.int .u64 0,.int .u32 0,.int .u32 0,.int .u32 0,.slice none 0 0,.slice none 0 0,.slice none 0 0,.slice none 0 0,.string b8,.int .u8 b6,.slice cd ce cf,.slice none 0 0,.slice none 0 0,.slice none 0 0,.int .u32 0,.slice none 0 0,.int .u32 0,.int .u16 0,.int .u16 0,.int .u32 0,.int .u8 0,.slice none 0 0,.slice none 0 0,.bool false,.int .u8 0,.int .u8 0,.int .u16 0]) cc ak/\∃cg,LdV pg 75 b (cg) ak/\R (.returned (cg)) ak)))))) (∃u:Option Addr,∃al:Bool,(∀wx,(Instr.typeAssert c 123 207 true).run pg wx=.ok (.tuple #[.pointer u,.bool al]) wx)/\Br al (∃am:Option Nat,∃an,u=some an/\Rk ((an.add 0)) am a.drew (∃ch,a.drew.cell? (an.add 0)=some (.int .u32 ch)/\∃ao,u=some ao/\Rk ((ao.add 1)) am a.drew (∃ci,a.drew.cell? (ao.add 1)=some (.int .u32 ci)/\gNew #[.int .i64 0,.int .u32 0,.int .u32 0,.int .u64 0,.int .u32 0,.int .u32 0,.int .u32 0,.slice none 0 0,.slice none 0 0,.slice none 0 0,.slice none 0 0,.string (ByteArray.mk #[]),.int .u8 0,.slice none 0 0,.slice none 0 0,.slice none 0 0,.slice none 0 0,.int .u32 0,.slice none 0 0,.int .u32 0,.int .u16 0,.int .u16 0,.int .u32 0,.int .u8 0,.slice none 0 0,.slice none 0 0,.bool false,.int .u8 0,.int .u8 0,.int .u16 0] 75 (fun v cj=>a.drew.grownBy cj am/\∃ap,StV pg 75 v (.agg #[.int .i64 6,.int .u32 ch,.int .u32 ci,.int .u64 0,.int .u32 0,.int .u32 0,.int .u32 0,.slice none 0 0,.slice none 0 0,.slice none 0 0,.slice none 0 0,.string (ByteArray.mk #[]),.int .u8 0,.slice none 0 0,.slice none 0 0,.slice none 0 0,.slice none 0 0,.int .u32 0,.slice none 0 0,.int .u32 0,.int .u16 0,.int .u16 0,.int .u32 0,.int .u8 0,.slice none 0 0,.slice none 0 0,.bool false,.int .u8 0,.int .u8 0,.int .u16 0]) cj ap/\∃ck,u=some ck/\∃cl x d4,ap.cell? (ck.add 2)=some (.slice cl x d4)/\∃aq:Int->NP,(∃d5,aq 0 d5 ap)/\∀(el:NV) (f:Int) (cm:Nat) (n:World),aq f cm n->Br (decide (f < (x:Int))) (∃cn,Ix cl cn f x (∃co cp,LdV pg 213 (cn.add (f.toNat*2)) (.agg #[.int .u16 co,.int .u16 cp]) n/\gNew #[.int .u16 0,.int .u16 0] 213 (fun ar d6=>∃o,StV pg 213 ar (.agg #[.int .u16 co,.int .u16 cp]) d6 o/\∃cq cr cs,o.cell? (v.add 14)=some (.slice cq cr cs)/\∃au,o.cell? (ar.add 0)=some (.int .u16 au)/\∃av,o.cell? (ar.add 1)=some (.int .u16 av)/\((.agg #[.int .u16 au,.int .u16 av]:Value).cells).size=2/\gNew (#[.int .u16 au,.int .u16 av]) 171 (fun d7 d8=>∃ct cu cv cx,(Builtin.append_ #[68,68] 68 #[.slice cq cr cs,.slice (some d7) 1 1]).run pg d8=.ok (.slice ct cu cv) cx/\∃cy,StV pg 68 (v.add 14) (.slice ct cu cv) cx cy/\∃cz,cz < cm/\aq (i64.wrap (f+1)) cz cy) o) n)) (∃cA,LdV pg 75 v (cA) n/\∃ax,StV pg 75 b (cA) n ax/\∃cB,LdV pg 75 b (cB) ax/\R (.returned (cB)) ax)) a.drew))) (∃ay:Option Addr,∃az:Bool,(∀wx,(Instr.typeAssert c 123 214 true).run pg wx=.ok (.tuple #[.pointer ay,.bool az]) wx)/\Br az (∃cC,ay=some cC/\∃cD,a.drew.cell? (cC.add 0)=some (.int .u32 cD)/\∃cE,ay=some cE/\∃cF,a.drew.cell? (cE.add 1)=some (.int .u32 cF)/\∃aA,StV pg 75 b (.agg #[.int .i64 7,.int .u32 cD,.int .u32 cF,.int .u64 0,.int .u32 0,.int .u32 0,.int .u32 0,.slice none 0 0,.slice none 0 0,.slice none 0 0,.slice none 0 0,.string (ByteArray.mk #[]),.int .u8 0,.slice none 0 0,.slice none 0 0,.slice none 0 0,.slice none 0 0,.int .u32 0,.slice none 0 0,.int .u32 0,.int .u16 0,.int .u16 0,.int .u32 0,.int .u8 0,.slice none 0 0,.slice none 0 0,.bool false,.int .u8 0,.int .u8 0,.int .u16 0]) a.drew aA/\∃cG,LdV pg 75 b (cG) aA/\R (.returned (cG)) aA) (∃y:Option Addr,∃aB:Bool,(∀wx,(Instr.typeAssert c 123 217 true).run pg wx=.ok (.tuple #[.pointer y,.bool aB]) wx)/\Br aB (∃z:Option Nat,∃aC,y=some aC/\Rk ((aC.add 0)) z a.drew (∃cH,a.drew.cell? (aC.add 0)=some (.int .u32 cH)/\∃aD,y=some aD/\Rk ((aD.add 1)) z a.drew (∃cI cJ cK,a.drew.cell? (aD.add 1)=some (.slice cI cJ cK)/\∃aE,y=some aE/\Rk ((aE.add 2)) z a.drew (∃cL,a.drew.cell? (aE.add 2)=some (.int .u32 cL)/\Calls pg 104 #[.slice cI cJ cK] a.drew (fun en cM=>∃cN cO cP,en=.returned (.slice cN cO cP)/\a.drew.grownBy cM z/\∃aF,StV pg 75 b (.agg #[.int .i64 8,.int .u32 cH,.int .u32 0,.int .u64 0,.int .u32 0,.int .u32 0,.int .u32 0,.slice none 0 0,.slice none 0 0,.slice none 0 0,.slice none 0 0,.string (ByteArray.mk #[]),.int .u8 0,.slice none 0 0,.slice none 0 0,.slice none 0 0,.slice none 0 0,.int .u32 0,.slice cN cO cP,.int .u32 cL,.int .u16 0,.int .u16 0,.int .u32 0,.int .u8 0,.slice none 0 0,.slice none 0 0,.bool false,.int .u8 0,.int .u8 0,.int .u16 0]) cM aF/\∃cQ,LdV pg 75 b (cQ) aF/\R (.returned (cQ)) aF))))) (∃aG:Option Addr,∃aH:Bool,(∀wx,(Instr.typeAssert c 123 222 true).run pg wx=.ok (.tuple #[.pointer aG,.bool aH]) wx)/\Br aH (∃cS,aG=some cS/\∃cT,a.drew.cell? (cS.add 0)=some (.int .u32 cT)/\∃cU,aG=some cU/\∃cV,a.drew.cell? (cU.add 1)=some (.int .u32 cV)/\∃aI,StV pg 75 b (.agg #[.int .i64 9,.int .u32 cT,.int .u32 cV,.int .u64 0,.int .u32 0,.int .u32 0,.int .u32 0,.slice none 0 0,.slice none 0 0,.slice none 0 0,.slice none 0 0,.string (ByteArray.mk #[]),.int .u8 0,.slice none 0 0,.slice none 0 0,.slice none 0 0,.slice none 0 0,.int .u32 0,.slice none 0 0,.int .u32 0,.int .u16 0,.int .u16 0,.int .u32 0,.int .u8 0,.slice none 0 0,.slice none 0 0,.bool false,.int .u8 0,.int .u8 0,.int .u16 0]) a.drew aI/\∃cW,LdV pg 75 b (cW) aI/\R (.returned (cW)) aI) (∃A:Option Addr,∃aJ:Bool,(∀wx,(Instr.typeAssert c 123 224 true).run pg wx=.ok (.tuple #[.pointer A,.bool aJ]) wx)/\Br aJ (∃aK:Option Nat,∃aL,A=some aL/\Rk ((aL.add 0)) aK a.drew (∃cX,a.drew.cell? (aL.add 0)=some (.int .u32 cX)/\∃aM,A=some aM/\Rk ((aM.add 1)) aK a.drew (∃cY,a.drew.cell? (aM.add 1)=some (.int .u32 cY)/\gNew #[.int .i64 0,.int .u32 0,.int .u32 0,.int .u64 0,.int .u32 0,.int .u32 0,.int .u32 0,.slice none 0 0,.slice none 0 0,.slice none 0 0,.slice none 0 0,.string (ByteArray.mk #[]),.int .u8 0,.slice none 0 0,.slice none 0 0,.slice none 0 0,.slice none 0 0,.int .u32 0,.slice none 0 0,.int .u32 0,.int .u16 0,.int .u16 0,.int .u32 0,.int .u8 0,.slice none 0 0,.slice none 0 0,.bool false,.int .u8 0,.int .u8 0,.int .u16 0] 75 (fun B cZ=>a.drew.grownBy cZ aK/\∃aN,StV pg 75 B (.agg #[.int .i64 10,.int .u32 cX,.int .u32 cY,.int .u64 0,.int .u32 0,.int .u32 0,.int .u32 0,.slice none 0 0,.slice none 0 0,.slice none 0 0,.slice none 0 0,.string (ByteArray.mk #[]),.int .u8 0,.slice none 0 0,.slice none 0 0,.slice none 0 0,.slice none 0 0,.int .u32 0,.slice none 0 0,.int .u32 0,.int .u16 0,.int .u16 0,.int .u32 0,.int .u8 0,.slice none 0 0,.slice none 0 0,.bool false,.int .u8 0,.int .u8 0,.int .u16 0]) cZ aN/\∃c0,A=some c0/\∃c1 C d9,aN.cell? (c0.add 2)=some (.slice c1 C d9)/\∃aO:Int->NP,(∃ea,aO 0 ea aN)/\∀(em:NV) (g:Int) (c2:Nat) (p:World),aO g c2 p->Br (decide (g < (C:Int))) (∃c3,Ix c1 c3 g C (∃c4 c5 c6,LdV pg 228 (c3.add (g.toNat*3)) (.agg #[.int .u16 c4,.int .u16 c5,.int .u8 c6]) p/\gNew #[.int .u16 0,.int .u16 0,.int .u8 0] 228 (fun D eb=>∃i,StV pg 228 D (.agg #[.int .u16 c4,.int .u16 c5,.int .u8 c6]) eb i/\∃c7 c8 c9,i.cell? (B.add 15)=some (.slice c7 c8 c9)/\∃aP,i.cell? (D.add 0)=some (.int .u16 aP)/\∃aQ,i.cell? (D.add 1)=some (.int .u16 aQ)/\∃aS,i.cell? (D.add 2)=some (.int .u8 aS)/\((.agg #[.int .u16 aP,.int .u16 aQ,.int .u8 aS]:Value).cells).size=3/\gNew (#[.int .u16 aP,.int .u16 aQ,.int .u8 aS]) 172 (fun ec ed=>∃da db dc dd,(Builtin.append_ #[69,69] 69 #[.slice c7 c8 c9,.slice (some ec) 1 1]).run pg ed=.ok (.slice da db dc) dd/\∃de,StV pg 69 (B.add 15) (.slice da db dc) dd de/\∃df,df < c2/\aO (i64.wrap (g+1)) df de) i) p)) (∃dg,LdV pg 75 B (dg) p/\∃aT,StV pg 75 b (dg) p aT/\∃dh,LdV pg 75 b (dh) aT/\R (.returned (dh)) aT)) a.drew))) (∃E:Option Addr,∃aU:Bool,(∀wx,(Instr.typeAssert c 123 229 true).run pg wx=.ok (.tuple #[.pointer E,.bool aU]) wx)/\Br aU (∃aV:Option Nat,∃aW,E=some aW/\Rk ((aW.add 0)) aV a.drew (∃di,a.drew.cell? (aW.add 0)=some (.int .u32 di)/\∃aX,E=some aX/\Rk ((aX.add 1)) aV a.drew (∃dj,a.drew.cell? (aX.add 1)=some (.int .u32 dj)/\gNew #[.int .i64 0,.int .u32 0,.int .u32 0,.int .u64 0,.int .u32 0,.int .u32 0,.int .u32 0,.slice none 0 0,.slice none 0 0,.slice none 0 0,.slice none 0 0,.string (ByteArray.mk #[]),.int .u8 0,.slice none 0 0,.slice none 0 0,.slice none 0 0,.slice none 0 0,.int .u32 0,.slice none 0 0,.int .u32 0,.int .u16 0,.int .u16 0,.int .u32 0,.int .u8 0,.slice none 0 0,.slice none 0 0,.bool false,.int .u8 0,.int .u8 0,.int .u16 0] 75 (fun F dk=>a.drew.grownBy dk aV/\∃aY,StV pg 75 F (.agg #[.int .i64 11,.int .u32 di,.int .u32 dj,.int .u64 0,.int .u32 0,.int .u32 0,.int .u32 0,.slice none 0 0,.slice none 0 0,.slice none 0 0,.slice none 0 0,.string (ByteArray.mk #[]),.int .u8 0,.slice none 0 0,.slice none 0 0,.slice none 0 0,.slice none 0 0,.int .u32 0,.slice none 0 0,.int .u32 0,.int .u16 0,.int .u16 0,.int .u32 0,.int .u8 0,.slice none 0 0,.slice none 0 0,.bool false,.int .u8 0,.int .u8 0,.int .u16 0]) dk aY/\∃dl,E=some dl/\∃dm G ee,aY.cell? (dl.add 2)=some (.slice dm G ee)/\∃aZ:Int->NP,(∃ef,aZ 0 ef aY)/\∀(eo:NV) (j:Int) (dn:Nat) (q:World),aZ j dn q->Br (decide (j < (G:Int))) (∃dp,Ix dm dp j G (∃dq dr,LdV pg 234 (dp.add (j.toNat*2)) (.agg #[.int .u32 dq,.int .u8 dr]) q/\gNew #[.int .u32 0,.int .u8 0] 234 (fun a0 eg=>∃r,StV pg 234 a0 (.agg #[.int .u32 dq,.int .u8 dr]) eg r/\∃ds dt du,r.cell? (F.add 16)=some (.slice ds dt du)/\∃a1,r.cell? (a0.add 0)=some (.int .u32 a1)/\∃a2,r.cell? (a0.add 1)=some (.int .u8 a2)/\((.agg #[.int .u32 a1,.int .u8 a2]:Value).cells).size=2/\gNew (#[.int .u32 a1,.int .u8 a2]) 173 (fun eh ei=>∃dv dx dy dz,(Builtin.append_ #[70,70] 70 #[.slice ds dt du,.slice (some eh) 1 1]).run pg ei=.ok (.slice dv dx dy) dz/\∃dA,StV pg 70 (F.add 16) (.slice dv dx dy) dz dA/\∃dB,dB < dn/\aZ (i64.wrap (j+1)) dB dA) r) q)) (∃dC,LdV pg 75 F (dC) q/\∃a3,StV pg 75 b (dC) q a3/\∃dD,LdV pg 75 b (dD) a3/\R (.returned (dD)) a3)) a.drew))) (∃H:Option Addr,∃a4:Bool,(∀wx,(Instr.typeAssert c 123 235 true).run pg wx=.ok (.tuple #[.pointer H,.bool a4]) wx)/\Br a4 (∃s:Option Nat,∃a5,H=some a5/\Rk ((a5.add 0)) s a.drew (∃dE,a.drew.cell? (a5.add 0)=some (.int .u32 dE)/\∃a6,H=some a6/\Rk ((a6.add 1)) s a.drew (∃dF,a.drew.cell? (a6.add 1)=some (.float .f32 dF)/\∃a7,H=some a7/\Rk ((a7.add 2)) s a.drew (∃dG dH dI,a.drew.cell? (a7.add 2)=some (.slice dG dH dI)/\∃dJ a8,(callFunc 105 #[.float .f32 dF]).run pg a.drew=.ok (.value (.int .u32 dJ)) a8/\a.drew.grownBy a8 s/\Calls pg 98 #[.slice dG dH dI] a8 (fun en dK=>∃dL dM dN,en=.returned (.slice dL dM dN)/\a.drew.grownBy dK s/\∃a9,StV pg 75 b (.agg #[.int .i64 12,.int .u32 dE,.int .u32 0,.int .u64 0,.int .u32 0,.int .u32 0,.int .u32 0,.slice none 0 0,.slice none 0 0,.slice none 0 0,.slice dL dM dN,.string (ByteArray.mk #[]),.int .u8 0,.slice none 0 0,.slice none 0 0,.slice none 0 0,.slice none 0 0,.int .u32 dJ,.slice none 0 0,.int .u32 0,.int .u16 0,.int .u16 0,.int .u32 0,.int .u8 0,.slice none 0 0,.slice none 0 0,.bool false,.int .u8 0,.int .u8 0,.int .u16 0]) dK a9/\∃dO,LdV pg 75 b (dO) a9/\R (.returned (dO)) a9))))) (∃dP:Option Addr,∃ba:Bool,(∀wx,(Instr.typeAssert c 123 240 true).run pg wx=.ok (.tuple #[.pointer dP,.bool ba]) wx)/\Br ba (Calls pg 106 #[.pointer dP] a (fun en ej=>∃dQ,en=.returned (dQ)/\∃bb,StV pg 75 b (dQ) ej bb/\∃dS,LdV pg 75 b (dS) bb/\R (.returned (dS)) bb)) (∃dT:Option Addr,∃bc:Bool,(∀wx,(Instr.typeAssert c 123 242 true).run pg wx=.ok (.tuple #[.pointer dT,.bool bc]) wx)/\Br bc (∃dU,dT=some dU/\∃dV dW dX,a.cell? dU=some (.slice dV dW dX)/\Calls pg 37 #[.slice dV dW dX] a (fun en ek=>∃dY dZ d0,en=.returned (.slice dY dZ d0)/\∃bd,StV pg 75 b (.agg #[.int .i64 0,.int .u32 0,.int .u32 0,.int .u64 0,.int .u32 0,.int .u32 0,.int .u32 0,.slice none 0 0,.slice none 0 0,.slice none 0 0,.slice none 0 0,.string (ByteArray.mk #[]),.int .u8 0,.slice dY dZ d0,.slice none 0 0,.slice none 0 0,.slice none 0 0,.int .u32 0,.slice none 0 0,.int .u32 0,.int .u16 0,.int .u16 0,.int .u32 0,.int .u8 0,.slice none 0 0,.slice none 0 0,.bool false,.int .u8 0,.int .u8 0,.int .u16 0]) ek bd/\∃d1,LdV pg 75 b (d1) bd/\R (.returned (d1)) bd)) (∃be,StV pg 75 b (.agg #[.int .i64 (-1:Int),.int .u32 0,.int .u32 0,.int .u64 0,.int .u32 0,.int .u32 0,.int .u32 0,.slice none 0 0,.slice none 0 0,.slice none 0 0,.slice none 0 0,.string (ByteArray.mk #[]),.int .u8 0,.slice none 0 0,.slice none 0 0,.slice none 0 0,.slice none 0 0,.int .u32 0,.slice none 0 0,.int .u32 0,.int .u16 0,.int .u16 0,.int .u32 0,.int .u8 0,.slice none 0 0,.slice none 0 0,.bool false,.int .u8 0,.int .u8 0,.int .u16 0]) a be/\∃d2,LdV pg 75 b (d2) be/\R (.returned (d2)) be))))))))))))))) w
theorem of66 {c R w} (h:SW66 c R w):Calls pg 66 #[c] w R:=
  calls_by H66 _ Tryz.func66 h
def H69:Hints:=⟨[],[(0,[(11,3)],[2,3,5,7]++rg 11 18),(2,[(18,3)],[2,3,7]++rg 18 10)],[]⟩
def SW69 (d:Value) (R:RT) (w:World):Prop:=
  gNew (d.cells) 63 (fun G o=>∃p e H,o.cell? (G.add 9)=some (.slice p e H)/\∃j:Int->NP,(∃I,j 0 I o)/\∀(N:NV) (a:Int) (q:Nat) (f:World),j a q f->Br (decide (a < (e:Int))) (∃r,Ix p r a e (∃s t u v,LdV pg 147 (r.add (a.toNat*2)) (.agg #[.int .u32 s,.slice t u v]) f/\gNew #[.int .u32 0,.slice none 0 0] 147 (fun x J=>∃k,StV pg 147 x (.agg #[.int .u32 s,.slice t u v]) J k/\∃y g K,k.cell? (x.add 1)=some (.slice y g K)/\∃l:Int->NP,(∃L,l 0 L k)/\∀(O:NV) (b:Int) (z:Nat) (i:World),l b z i->Br (decide (b < (g:Int))) (∃A,Ix y A b g (∃B C,LdV pg 149 (A.add (b.toNat*2)) (.agg #[.int .u8 B,.string C]) i/\gNew #[.int .u8 0,.string (ByteArray.mk #[])] 149 (fun m M=>∃c,StV pg 149 m (.agg #[.int .u8 B,.string C]) M c/\∃n,c.cell? (m.add 0)=some (.int .u8 n)/\Br (n == 1) (∃D,c.cell? (m.add 1)=some (.string D)/\R (.returned (.tuple #[.string D,.bool true])) c) (∃E,E < z/\l (i64.wrap (b+1)) E c)) i)) (∃F,F < q/\j (i64.wrap (a+1)) F i)) f)) (R (.returned (.tuple #[.string (ByteArray.mk #[]),.bool false])) f)) w
theorem of69 {d R w} (h:SW69 d R w):Calls pg 69 #[d] w R:=
  calls_by H69 _ Tryz.func69 h
def H70:Hints:=⟨[],[],[]⟩
def SW70 (a:Addr) (b:Addr) (R:RT) (w:World):Prop:=
  ∃d e f,w.cell? a=some (.slice d e f)/\Calls pg 46 #[.slice d e f] w (fun en m=>∃g i j,en=.returned (.slice g i j)/\Calls pg 71 #[.slice g i j] m (fun en n=>∃k c,en=.returned (.tuple #[.string k,c])/\∃l,StV pg 9 b (.string k) n l/\isIf c/\R (.returned (.bool (isNilI c))) l))
theorem of70 {a b R w} (h:SW70 a b R w):Calls pg 70 #[.pointer (some a),.pointer (some b)] w R:=
  calls_by H70 _ Tryz.func70 h
def H71:Hints:=⟨[(3,[0,0,3],7,ons [3,0,5] .done),(23,[0,0,3],7,ons [3,0,5] .done)],[(0,[(4,90),(22,3)],[2,3,4,6,7,8,10,12,13,14]++rg 22 43),(2,[(37,3)],[2,3,10,12]++rg 37 19),(4,[(44,3)],[2,3,12]++rg 44 11)],[]⟩
def SW71 (j:Option Addr) (a k:Nat) (R:RT) (w:World):Prop:=
  Br (decide ((a:Int) < 1)) (∃A,w.drew.cell? (⟨3,0,none⟩)=some (A)/\R (.returned (.tuple #[.string (ByteArray.mk #[]),A])) w.drew) (0<=(1:Int)/\1<=(a:Int)/\∃g:Value->Int->NP,(∃X,g (.nilIface:Value) 0 X w)/\∀(af:NV) (l:Value) (b:Int) (m:Nat) (c:World),g l b m c->Br (decide (b < ((a - 1:Nat):Int))) (∃B,cutA j 1 k 1=some B/\0<=b/\b < ((a - 1:Nat):Int)/\∃r,c.cell? (B.add (b.toNat*1))=some (r)/\∃C:Option Addr,∃s:Bool,(∀wx,(Instr.typeAssert r 123 198 true).run pg wx=.ok (.tuple #[.pointer C,.bool s]) wx)/\Br s (∃D,C=some D/\∃E n Y,c.cell? (D.add 0)=some (.slice E n Y)/\∃t:Int->NP,(∃Z,t 0 Z c)/\∀(ag:NV) (e:Int) (F:Nat) (o:World),t e F o->Br (decide (e < (n:Int))) (∃G,Ix E G e n (∃H I J K,LdV pg 255 (G.add (e.toNat*2)) (.agg #[.int .u32 H,.slice I J K]) o/\gNew #[.int .u32 0,.slice none 0 0] 255 (fun L aa=>∃u,StV pg 255 L (.agg #[.int .u32 H,.slice I J K]) aa u/\∃M p ab,u.cell? (L.add 1)=some (.slice M p ab)/\∃v:Int->NP,(∃ac,v 0 ac u)/\∀(ah:NV) (f:Int) (N:Nat) (q:World),v f N q->Br (decide (f < (p:Int))) (∃O,Ix M O f p (∃P Q,LdV pg 258 (O.add (f.toNat*2)) (.agg #[.int .u8 P,.string Q]) q/\gNew #[.int .u8 0,.string (ByteArray.mk #[])] 258 (fun x ad=>∃i,StV pg 258 x (.agg #[.int .u8 P,.string Q]) ad i/\∃y,i.cell? (x.add 0)=some (.int .u8 y)/\Br (y == 1) (∃S,i.cell? (x.add 1)=some (.string S)/\R (.returned (.tuple #[.string S,l])) i) (∃T,T < N/\v (i64.wrap (f+1)) T i)) q)) (∃U,U < F/\t (i64.wrap (e+1)) U q)) o)) (∃d,d < m/\g l (i64.wrap (b+1)) d o)) (∃ae:Option Addr,∃z:Bool,(∀wx,(Instr.typeAssert r 123 195 true).run pg wx=.ok (.tuple #[.pointer ae,.bool z]) wx)/\Br (!z) (∃V,c.cell? (⟨4,0,none⟩)=some (V)/\∃d,d < m/\g V (i64.wrap (b+1)) d c) (∃d,d < m/\g l (i64.wrap (b+1)) d c))) (∃W,c.drew.cell? (⟨5,0,none⟩)=some (W)/\R (.returned (.tuple #[.string (ByteArray.mk #[]),W])) c.drew))
theorem of71 {j a k R w} (h:SW71 j a k R w):Calls pg 71 #[.slice j a k] w R:=
  calls_by H71 _ Tryz.func71 h
def H72:Hints:=⟨[],[],[]⟩
def SW72 (a:Addr) (b:Addr) (R:RT) (w:World):Prop:=
  ∃d e f,w.cell? a=some (.slice d e f)/\Calls pg 46 #[.slice d e f] w (fun en o=>∃g i j,en=.returned (.slice g i j)/\Calls pg 73 #[.slice g i j] o (fun en p=>∃k l m c,en=.returned (.tuple #[.slice k l m,c])/\∃n,StV pg 22 b (.slice k l m) p n/\isIf c/\R (.returned (.bool (isNilI c))) n))
theorem of72 {a b R w} (h:SW72 a b R w):Calls pg 72 #[.pointer (some a),.pointer (some b)] w R:=
  calls_by H72 _ Tryz.func72 h
def H73:Hints:=⟨[],[],[]⟩
def SW73 (a:Option Addr) (b c:Nat) (R:RT) (w:World):Prop:=
  Calls pg 77 #[.slice a b c] w (fun en e=>∃d,en=.returned (d)/\isIf d/\Br (!(isNilI d)) (R (.returned (.tuple #[.slice none 0 0,d])) e) (Calls pg 45 #[.slice a b c] e (fun en k=>∃f g i j,en=.returned (.tuple #[.slice f g i,j])/\R (.returned (.tuple #[.slice f g i,j])) k)))
theorem of73 {a b c R w} (h:SW73 a b c R w):Calls pg 73 #[.slice a b c] w R:=
  calls_by H73 _ Tryz.func73 h
def H74:Hints:=⟨[],[],[]⟩
def SW74 (a:Addr) (b:Addr) (R:RT) (w:World):Prop:=
  gNew #[.slice none 0 0] 132 (fun d e=>∃f g i,e.cell? a=some (.slice f g i)/\Calls pg 37 #[.slice f g i] e (fun en u=>∃j k l,en=.returned (.slice j k l)/\Calls pg 75 #[.pointer (some d),.slice j k l] u (fun en m=>∃c,en=.returned (c)/\∃n o p,m.cell? d=some (.slice n o p)/\Calls pg 38 #[.slice n o p] m (fun en v=>∃q r s,en=.returned (.slice q r s)/\∃t,StV pg 26 b (.slice q r s) v t/\isIf c/\R (.returned (.bool (isNilI c))) t)))) w
theorem of74 {a b R w} (h:SW74 a b R w):Calls pg 74 #[.pointer (some a),.pointer (some b)] w R:=
  calls_by H74 _ Tryz.func74 h
def H75:Hints:=⟨[],[(0,[(1,22),(5,132)],[1,4,5,6,7,8]++rg 10 19)],[]⟩
def SW75 (c:Option Addr) (e:Option Addr) (f g:Nat) (R:RT) (w:World):Prop:=
  ∃r s t u,(Instr.makeSlice 132 (.int .i64 0) (.int .i64 0)).run pg w=.ok (.slice r s t) u/\∃j:Option Addr->Nat->Nat->Option Addr->Nat->Nat->NP,(∃J,j e f g r s t J u)/\∀(N:NV) (k:Option Addr) (a i:Nat) (l:Option Addr) (m n:Nat) (v:Nat) (o:World),j k a i l m n v o->Br ((a:Int) != 0) (Calls pg 79 #[.slice k a i] o (fun en x=>∃p b d,en=.returned (.tuple #[p,.int .i64 b,d])/\isIf d/\Br (!(isNilI d)) (R (.returned (d)) x) ((p.cells).size=1/\gNew (p.cells) 123 (fun K L=>∃y z A B,(Builtin.append_ #[132,132] 132 #[.slice l m n,.slice (some K) 1 1]).run pg L=.ok (.slice y z A) B/\0<=b/\b<=(a:Int)/\∃C,C < v/\j (cutA k b.toNat i 1) (a - b.toNat) (i - b.toNat) y z A C B) x))) (∃D,c=some D/\∃q,StV pg 132 D (.slice l m n) o q/\∃E,c=some E/\∃F G H,q.cell? E=some (.slice F G H)/\Calls pg 77 #[.slice F G H] q (fun en M=>∃I,en=.returned (I)/\R (.returned (I)) M))
theorem of75 {c e f g R w} (h:SW75 c e f g R w):Calls pg 75 #[.pointer c,.slice e f g] w R:=
  calls_by H75 _ Tryz.func75 h
def H76:Hints:=⟨[],[],[]⟩
def SW76 (a:Addr) (R:RT) (w:World):Prop:=
  ∃c d e,w.cell? a=some (.slice c d e)/\Calls pg 46 #[.slice c d e] w (fun en j=>∃f g i,en=.returned (.slice f g i)/\Calls pg 77 #[.slice f g i] j (fun en k=>∃b,en=.returned (b)/\isIf b/\R (.returned (.bool (isNilI b))) k))
theorem of76 {a R w} (h:SW76 a R w):Calls pg 76 #[.pointer (some a)] w R:=
  calls_by H76 _ Tryz.func76 h
def H77:Hints:=⟨[],[(1,[(31,3)],[2,4,5,6,7,9,11,12]++rg 31 37),(4,[(7,4),(48,3)],[7,9,11]++rg 48 16),(6,[(7,4),(55,3)],[7,11]++rg 55 8)],[]⟩
def SW77 (g:Option Addr) (a j:Nat) (R:RT) (w:World):Prop:=
  Br ((a:Int) == 0) (∃D,w.cell? (⟨3,0,none⟩)=some (D)/\R (.returned (D)) w) (∃E,Ix g E 0 a (∃q,w.cell? (E.add ((0:Int).toNat*1))=some (q)/\∃ad:Option Addr,∃r:Bool,(∀wx,(Instr.typeAssert q 123 190 true).run pg wx=.ok (.tuple #[.pointer ad,.bool r]) wx)/\∃ae:Option Addr,∃s:Bool,(∀wx,(Instr.typeAssert q 123 195 true).run pg wx=.ok (.tuple #[.pointer ae,.bool s]) wx)/\Br (bif r then true else s) (0<=(1:Int)/\1<=(a:Int)/\∃t:Int->NP,(∃af,t 0 af w)/\∀(an:NV) (c:Int) (F:Nat) (b:World),t c F b->Br (decide (c < ((a - 1:Nat):Int))) (∃G,cutA g 1 j 1=some G/\0<=c/\c < ((a - 1:Nat):Int)/\∃u,b.cell? (G.add (c.toNat*1))=some (u)/\∃ag:Option Addr,∃v:Bool,(∀wx,(Instr.typeAssert u 123 195 true).run pg wx=.ok (.tuple #[.pointer ag,.bool v]) wx)/\Br v (∃H,H < F/\t (i64.wrap (c+1)) H b) (∃I:Option Addr,∃x:Bool,(∀wx,(Instr.typeAssert u 123 198 true).run pg wx=.ok (.tuple #[.pointer I,.bool x]) wx)/\Br x (∃J,I=some J/\∃K k ah,b.cell? (J.add 0)=some (.slice K k ah)/\∃y:Bool->Int->NP,(∃ai,y false 0 ai b)/\∀(ao:NV) (l:Bool) (e:Int) (L:Nat) (f:World),y l e L f->Br (decide (e < (k:Int))) (∃M,Ix K M e k (∃N O P Q,LdV pg 255 (M.add (e.toNat*2)) (.agg #[.int .u32 N,.slice O P Q]) f/\gNew #[.int .u32 0,.slice none 0 0] 255 (fun S aj=>∃z,StV pg 255 S (.agg #[.int .u32 N,.slice O P Q]) aj z/\∃T m ak,z.cell? (S.add 1)=some (.slice T m ak)/\∃n:Bool->Int->NP,(∃al,n l 0 al z)/\∀(ap:NV) (A:Bool) (d:Int) (B:Nat) (o:World),n A d B o->Br (decide (d < (m:Int))) (∃U,Ix T U d m (∃V W,LdV pg 258 (U.add (d.toNat*2)) (.agg #[.int .u8 V,.string W]) o/\gNew #[.int .u8 0,.string (ByteArray.mk #[])] 258 (fun X am=>∃p,StV pg 258 X (.agg #[.int .u8 V,.string W]) am p/\∃C,p.cell? (X.add 0)=some (.int .u8 C)/\Br (C == 1) (∃i,i < B/\n true (i64.wrap (d+1)) i p) (∃i,i < B/\n A (i64.wrap (d+1)) i p)) o)) (∃Y,Y < L/\y A (i64.wrap (e+1)) Y o)) f)) (Br (!l) (∃Z,f.cell? (⟨5,0,none⟩)=some (Z)/\R (.returned (Z)) f) (R (.returned (.nilIface)) f))) (∃aa,b.cell? (⟨4,0,none⟩)=some (aa)/\R (.returned (aa)) b))) (∃ab,b.cell? (⟨5,0,none⟩)=some (ab)/\R (.returned (ab)) b)) (∃ac,w.cell? (⟨6,0,none⟩)=some (ac)/\R (.returned (ac)) w)))
theorem of77 {g a j R w} (h:SW77 g a j R w):Calls pg 77 #[.slice g a j] w R:=
  calls_by H77 _ Tryz.func77 h
def H79:Hints:=⟨[(7,[0,0,2,7],15,ons [3,5,0,7] .done)],[],[]⟩
def SW79 (d:Option Addr) (i a:Nat) (R:RT) (w:World):Prop:=
  gNew #[.bool false,.int .u8 0,.int .u8 0,.int .u16 0] 109 (fun j U=>Calls pg 55 #[.pointer (some j),.slice d i a] U (fun en c=>∃k,en=.returned (k)/\isIf k/\Br (!(isNilI k)) (R (.returned (.tuple #[.nilIface,.int .i64 0,k])) c) (∃b,c.cell? (j.add 3)=some (.int .u16 b)/\Br (decide ((i64.wrap ((i64.wrap ((i64.wrap b)+1))*4)) > (i:Int))) (∃l,c.drew.cell? (⟨1,0,none⟩)=some (l)/\R (.returned (.tuple #[.nilIface,.int .i64 0,l])) c.drew) (0<=i64.wrap ((i64.wrap ((i64.wrap b)+1))*4)/\i64.wrap ((i64.wrap ((i64.wrap b)+1))*4)<=(a:Int)/\∃e,c.cell? (j.add 2)=some (.int .u8 e)/\Br (e == 200) (gNew #[.int .u32 0,.int .u64 0,.int .u32 0,.int .u32 0,.int .u32 0,.slice none 0 0,.slice none 0 0] 194 (fun m V=>Invk (.iface 190 (.pointer (some m)):Value) "Unmarshal" #[.slice (cutA d 0 a 1) ((i64.wrap ((i64.wrap ((i64.wrap b)+1))*4)).toNat) a] V (fun en W=>∃n,en=.returned (n)/\R (.returned (.tuple #[.iface 190 (.pointer (some m)),.int .i64 (i64.wrap ((i64.wrap ((i64.wrap b)+1))*4)),n])) W)) c) (Br (e == 201) (gNew #[.int .u32 0,.slice none 0 0,.slice none 0 0] 197 (fun o X=>Invk (.iface 195 (.pointer (some o)):Value) "Unmarshal" #[.slice (cutA d 0 a 1) ((i64.wrap ((i64.wrap ((i64.wrap b)+1))*4)).toNat) a] X (fun en Y=>∃p,en=.returned (p)/\R (.returned (.tuple #[.iface 195 (.pointer (some o)),.int .i64 (i64.wrap ((i64.wrap ((i64.wrap b)+1))*4)),p])) Y)) c) (Br (e == 202) (gNew #[.slice none 0 0] 252 (fun q Z=>Invk (.iface 198 (.pointer (some q)):Value) "Unmarshal" #[.slice (cutA d 0 a 1) ((i64.wrap ((i64.wrap ((i64.wrap b)+1))*4)).toNat) a] Z (fun en aa=>∃r,en=.returned (r)/\R (.returned (.tuple #[.iface 198 (.pointer (some q)),.int .i64 (i64.wrap ((i64.wrap ((i64.wrap b)+1))*4)),r])) aa)) c) (Br (e == 203) (gNew #[.slice none 0 0,.string (ByteArray.mk #[])] 203 (fun s ab=>Invk (.iface 200 (.pointer (some s)):Value) "Unmarshal" #[.slice (cutA d 0 a 1) ((i64.wrap ((i64.wrap ((i64.wrap b)+1))*4)).toNat) a] ab (fun en ac=>∃t,en=.returned (t)/\R (.returned (.tuple #[.iface 200 (.pointer (some s)),.int .i64 (i64.wrap ((i64.wrap ((i64.wrap b)+1))*4)),t])) ac)) c) (Br (e == 205) (∃f,c.cell? (j.add 1)=some (.int .u8 f)/\Br (f == 1) (gNew #[.int .u32 0,.int .u32 0,.slice none 0 0] 210 (fun u ad=>Invk (.iface 207 (.pointer (some u)):Value) "Unmarshal" #[.slice (cutA d 0 a 1) ((i64.wrap ((i64.wrap ((i64.wrap b)+1))*4)).toNat) a] ad (fun en ae=>∃v,en=.returned (v)/\R (.returned (.tuple #[.iface 207 (.pointer (some u)),.int .i64 (i64.wrap ((i64.wrap ((i64.wrap b)+1))*4)),v])) ae)) c) (Br (f == 5) (gNew #[.int .u32 0,.int .u32 0] 216 (fun x af=>Invk (.iface 214 (.pointer (some x)):Value) "Unmarshal" #[.slice (cutA d 0 a 1) ((i64.wrap ((i64.wrap ((i64.wrap b)+1))*4)).toNat) a] af (fun en ag=>∃y,en=.returned (y)/\R (.returned (.tuple #[.iface 214 (.pointer (some x)),.int .i64 (i64.wrap ((i64.wrap ((i64.wrap b)+1))*4)),y])) ag)) c) (Br (f == 15) (gNew #[.bool false,.int .u8 0,.int .u8 0,.int .u16 0,.int .u32 0,.int .u32 0,.int .u16 0,.int .u16 0,.int .u32 0,.int .u8 0,.slice none 0 0,.slice none 0 0] 263 (fun z ah=>Invk (.iface 240 (.pointer (some z)):Value) "Unmarshal" #[.slice (cutA d 0 a 1) ((i64.wrap ((i64.wrap ((i64.wrap b)+1))*4)).toNat) a] ah (fun en ai=>∃A,en=.returned (A)/\R (.returned (.tuple #[.iface 240 (.pointer (some z)),.int .i64 (i64.wrap ((i64.wrap ((i64.wrap b)+1))*4)),A])) ai)) c) (Br (f == 11) (gNew #[.int .u32 0,.slice none 0 0,.int .u32 0] 221 (fun B aj=>Invk (.iface 217 (.pointer (some B)):Value) "Unmarshal" #[.slice (cutA d 0 a 1) ((i64.wrap ((i64.wrap ((i64.wrap b)+1))*4)).toNat) a] aj (fun en ak=>∃C,en=.returned (C)/\R (.returned (.tuple #[.iface 217 (.pointer (some B)),.int .i64 (i64.wrap ((i64.wrap ((i64.wrap b)+1))*4)),C])) ak)) c) (gNew #[.slice none 0 0] 129 (fun D al=>Invk (.iface 242 (.pointer (some D)):Value) "Unmarshal" #[.slice (cutA d 0 a 1) ((i64.wrap ((i64.wrap ((i64.wrap b)+1))*4)).toNat) a] al (fun en am=>∃E,en=.returned (E)/\R (.returned (.tuple #[.iface 242 (.pointer (some D)),.int .i64 (i64.wrap ((i64.wrap ((i64.wrap b)+1))*4)),E])) am)) c))))) (Br (e == 206) (∃g,c.cell? (j.add 1)=some (.int .u8 g)/\Br (g == 1) (gNew #[.int .u32 0,.int .u32 0] 223 (fun F an=>Invk (.iface 222 (.pointer (some F)):Value) "Unmarshal" #[.slice (cutA d 0 a 1) ((i64.wrap ((i64.wrap ((i64.wrap b)+1))*4)).toNat) a] an (fun en ao=>∃G,en=.returned (G)/\R (.returned (.tuple #[.iface 222 (.pointer (some F)),.int .i64 (i64.wrap ((i64.wrap ((i64.wrap b)+1))*4)),G])) ao)) c) (Br (g == 2) (gNew #[.int .u32 0,.int .u32 0,.slice none 0 0] 227 (fun H ap=>Invk (.iface 224 (.pointer (some H)):Value) "Unmarshal" #[.slice (cutA d 0 a 1) ((i64.wrap ((i64.wrap ((i64.wrap b)+1))*4)).toNat) a] ap (fun en aq=>∃I,en=.returned (I)/\R (.returned (.tuple #[.iface 224 (.pointer (some H)),.int .i64 (i64.wrap ((i64.wrap ((i64.wrap b)+1))*4)),I])) aq)) c) (Br (g == 15) (gNew #[.int .u32 0,.float .f32 0,.slice none 0 0] 239 (fun J ar=>Invk (.iface 235 (.pointer (some J)):Value) "Unmarshal" #[.slice (cutA d 0 a 1) ((i64.wrap ((i64.wrap ((i64.wrap b)+1))*4)).toNat) a] ar (fun en au=>∃K,en=.returned (K)/\R (.returned (.tuple #[.iface 235 (.pointer (some J)),.int .i64 (i64.wrap ((i64.wrap ((i64.wrap b)+1))*4)),K])) au)) c) (Br (g == 4) (gNew #[.int .u32 0,.int .u32 0,.slice none 0 0] 232 (fun L av=>Invk (.iface 229 (.pointer (some L)):Value) "Unmarshal" #[.slice (cutA d 0 a 1) ((i64.wrap ((i64.wrap ((i64.wrap b)+1))*4)).toNat) a] av (fun en ax=>∃M,en=.returned (M)/\R (.returned (.tuple #[.iface 229 (.pointer (some L)),.int .i64 (i64.wrap ((i64.wrap ((i64.wrap b)+1))*4)),M])) ax)) c) (gNew #[.slice none 0 0] 129 (fun N ay=>Invk (.iface 242 (.pointer (some N)):Value) "Unmarshal" #[.slice (cutA d 0 a 1) ((i64.wrap ((i64.wrap ((i64.wrap b)+1))*4)).toNat) a] ay (fun en az=>∃O,en=.returned (O)/\R (.returned (.tuple #[.iface 242 (.pointer (some N)),.int .i64 (i64.wrap ((i64.wrap ((i64.wrap b)+1))*4)),O])) az)) c))))) (Br (e == 204) (gNew #[.int .u8 0,.int .u32 0,.string (ByteArray.mk #[]),.slice none 0 0] 206 (fun P aA=>Invk (.iface 204 (.pointer (some P)):Value) "Unmarshal" #[.slice (cutA d 0 a 1) ((i64.wrap ((i64.wrap ((i64.wrap b)+1))*4)).toNat) a] aA (fun en aB=>∃Q,en=.returned (Q)/\R (.returned (.tuple #[.iface 204 (.pointer (some P)),.int .i64 (i64.wrap ((i64.wrap ((i64.wrap b)+1))*4)),Q])) aB)) c) (gNew #[.slice none 0 0] 129 (fun S aC=>Invk (.iface 242 (.pointer (some S)):Value) "Unmarshal" #[.slice (cutA d 0 a 1) ((i64.wrap ((i64.wrap ((i64.wrap b)+1))*4)).toNat) a] aC (fun en aD=>∃T,en=.returned (T)/\R (.returned (.tuple #[.iface 242 (.pointer (some S)),.int .i64 (i64.wrap ((i64.wrap ((i64.wrap b)+1))*4)),T])) aD)) c))))))))))) w
theorem of79 {d i a R w} (h:SW79 d i a R w):Calls pg 79 #[.slice d i a] w R:=
  calls_by H79 _ Tryz.func79 h
def H80:Hints:=⟨[],[],[]⟩
def SW80 (a:Addr) (b:Addr) (R:RT) (w:World):Prop:=
  ∃d,LdV pg 75 a (d) w/\Calls pg 65 #[d] w (fun en k=>∃e,en=.returned (e)/\Invk e "Marshal" #[] k (fun en l=>∃f g i c,en=.returned (.tuple #[.slice f g i,c])/\∃j,StV pg 22 b (.slice f g i) l j/\isIf c/\R (.returned (.bool (isNilI c))) j))
theorem of80 {a b R w} (h:SW80 a b R w):Calls pg 80 #[.pointer (some a),.pointer (some b)] w R:=
  calls_by H80 _ Tryz.func80 h
def H81:Hints:=⟨[(6,[0,0,0,6,8,16,33,127],128,ons [1,3,5,7,9,10,12,14] .done)],[(0,[(8,3)],[4,5]++rg 8 16),(2,[(5,3)],[5]++rg 12 11)],[]⟩
def SW81 (f:Option Addr) (c i:Nat) (d:Addr) (R:RT) (w:World):Prop:=
  ∃j:Int->NP,(∃C,j 0 C w)/\∀(F:NV) (e:Int) (o:Nat) (g:World),j e o g->Br (decide (e < (c:Int))) (∃p,Ix f p e c (∃k,g.cell? (p.add (e.toNat*1))=some (.int .u64 k)/\∃l:Int->NP,(∃D,l 56 D g)/\∀(G:NV) (a:Int) (q:Nat) (b:World),l a q b->Br (decide (a>=0)) (∃m:Option Nat,Rk d m b.drew (∃r s t,b.drew.cell? d=some (.slice r s t)/\0<=a/\((.int .u8 (u8.wrap (ishr .u64 k a)):Value).cells).size=1/\gNew (#[.int .u8 (u8.wrap (ishr .u64 k a))]) 5 (fun E u=>b.drew.grownBy u m/\∃v x y n,(Builtin.append_ #[22,22] 22 #[.slice r s t,.slice (some E) 1 1]).run pg u=.ok (.slice v x y) n/\b.drew.grownBy n m/\∃z,StV pg 22 d (.slice v x y) n z/\∃A,A < q/\l (i64.wrap (a - 8)) A z) b.drew)) (∃B,B < o/\j (i64.wrap (e+1)) B b))) (R (.returned (.tuple #[])) g)
theorem of81 {f c i d R w} (h:SW81 f c i d R w):Calls pg 81 #[.slice f c i,.pointer (some d)] w R:=
  calls_by H81 _ Tryz.func81 h
def H82:Hints:=⟨[],[],[]⟩
def SW82 (a:ByteArray) (c:Addr) (b:Addr) (R:RT) (w:World):Prop:=
  ∃(d:FuncId) (e f:Array Value),w.cell? c=some (.func (.func d) e f)/\((.int .u64 (u64.wrap ((a.size:Nat):Int)):Value).cells).size=1/\gNew (#[.int .u64 (u64.wrap ((a.size:Nat):Int))]) 52 (fun q r=>fnVc pg d (e++#[.slice (some q) 1 1]++f) 0 (fun s g=>∃i j k,g.cell? b=some (.slice i j k)/\∃l m n o,(Builtin.append_ #[22,9] 22 #[.slice i j k,.string a]).run pg g=.ok (.slice l m n) o/\∃p,StV pg 22 b (.slice l m n) o p/\R (.returned (.tuple #[])) p) r) w
theorem of82 {a c b R w} (h:SW82 a c b R w):Calls pg 82 #[.string a,.pointer (some c),.pointer (some b)] w R:=
  calls_by H82 _ Tryz.func82 h
def H83:Hints:=⟨[],[],[]⟩
def SW83 (a:Bool) (R:RT) (w:World):Prop:=
  Br a (R (.returned (.int .u64 1)) w) (R (.returned (.int .u64 0)) w)
theorem of83 {a R w} (h:SW83 a R w):Calls pg 83 #[.bool a] w R:=
  calls_by H83 _ Tryz.func83 h
def H84:Hints:=⟨[],[(0,[(10,3)],[2,4]++rg 10 8)],[]⟩
def SW84 (c:Option Addr) (a e:Nat) (R:RT) (w:World):Prop:=
  Br (decide ((a:Int) > 2147483647)) (R (.returned (.bool false)) w) (∃f:Int->NP,(∃x,f 0 x w)/\∀(z:NV) (b:Int) (j:Nat) (d:World),f b j d->Br (decide (b < (a:Int))) (∃k,Ix c k b a (∃l m n o,LdV pg 147 (k.add (b.toNat*2)) (.agg #[.int .u32 l,.slice m n o]) d/\gNew #[.int .u32 0,.slice none 0 0] 147 (fun p y=>∃g,StV pg 147 p (.agg #[.int .u32 l,.slice m n o]) y g/\∃q r s t,LdV pg 147 p (.agg #[.int .u32 q,.slice r s t]) g/\Calls pg 108 #[.agg #[.int .u32 q,.slice r s t]] g (fun en u=>∃i,en=.returned (.bool i)/\Br (!i) (R (.returned (.bool false)) u) (∃v,v < j/\f (i64.wrap (b+1)) v u))) d)) (R (.returned (.bool true)) d))
theorem of84 {c a e R w} (h:SW84 c a e R w):Calls pg 84 #[.slice c a e] w R:=
  calls_by H84 _ Tryz.func84 h
def H85:Hints:=⟨[],[(0,[(10,3)],[2,4]++rg 10 8)],[]⟩
def SW85 (c:Option Addr) (a e:Nat) (R:RT) (w:World):Prop:=
  Br (decide ((a:Int) > 2147483647)) (R (.returned (.bool false)) w) (∃f:Int->NP,(∃z,f 0 z w)/\∀(B:NV) (b:Int) (j:Nat) (d:World),f b j d->Br (decide (b < (a:Int))) (∃k,Ix c k b a (∃l m n o p,LdV pg 158 (k.add (b.toNat*3)) (.agg #[.int .u32 l,.int .u16 m,.slice n o p]) d/\gNew #[.int .u32 0,.int .u16 0,.slice none 0 0] 158 (fun q A=>∃g,StV pg 158 q (.agg #[.int .u32 l,.int .u16 m,.slice n o p]) A g/\∃r s t u v,LdV pg 158 q (.agg #[.int .u32 r,.int .u16 s,.slice t u v]) g/\Calls pg 109 #[.agg #[.int .u32 r,.int .u16 s,.slice t u v]] g (fun en x=>∃i,en=.returned (.bool i)/\Br (!i) (R (.returned (.bool false)) x) (∃y,y < j/\f (i64.wrap (b+1)) y x))) d)) (R (.returned (.bool true)) d))
theorem of85 {c a e R w} (h:SW85 c a e R w):Calls pg 85 #[.slice c a e] w R:=
  calls_by H85 _ Tryz.func85 h
def H86:Hints:=⟨[],[(0,[(10,3)],[2,4]++rg 10 8)],[]⟩
def SW86 (c:Option Addr) (a e:Nat) (R:RT) (w:World):Prop:=
  Br (decide ((a:Int) > 2147483647)) (R (.returned (.bool false)) w) (∃f:Int->NP,(∃D,f 0 D w)/\∀(F:NV) (b:Int) (j:Nat) (d:World),f b j d->Br (decide (b < (a:Int))) (∃k,Ix c k b a (∃l m n o p q r,LdV pg 163 (k.add (b.toNat*5)) (.agg #[.bool l,.int .u16 m,.int .u16 n,.int .u16 o,.slice p q r]) d/\gNew #[.bool false,.int .u16 0,.int .u16 0,.int .u16 0,.slice none 0 0] 163 (fun s E=>∃g,StV pg 163 s (.agg #[.bool l,.int .u16 m,.int .u16 n,.int .u16 o,.slice p q r]) E g/\∃t u v x y z A,LdV pg 163 s (.agg #[.bool t,.int .u16 u,.int .u16 v,.int .u16 x,.slice y z A]) g/\Calls pg 110 #[.agg #[.bool t,.int .u16 u,.int .u16 v,.int .u16 x,.slice y z A]] g (fun en B=>∃i,en=.returned (.bool i)/\Br (!i) (R (.returned (.bool false)) B) (∃C,C < j/\f (i64.wrap (b+1)) C B))) d)) (R (.returned (.bool true)) d))
theorem of86 {c a e R w} (h:SW86 c a e R w):Calls pg 86 #[.slice c a e] w R:=
  calls_by H86 _ Tryz.func86 h
def H87:Hints:=⟨[(7,[0,1,0,4,0,16,0,64,0,256,0,1024,3,4099,12303,28687,61503,127039,258303,520447,1045503,2094079,4194303,8388607],12582912,ons [1,3,5,7,9,11,13,15,17,19,21,23,25,26,29,30,33,34,37,38,41,42,45,46] .done),(9,[0,1,0,4,3,19,63,127],192,ons [1,3,5,7,9,10,13,14] .done),(11,[0,1,0,4,15,31],48,ons [1,3,5,6,9,10] .done),(13,[0,1,0,4,0,16,51,115,255,511],768,ons [1,3,5,7,9,10,13,14,17,18] .done),(15,[0,1,0,4,0,16,3,67,207,463,1023,2047],3072,ons [1,3,5,7,9,11,13,14,17,18,21,22] .done),(17,[0,1,0,4,3,19,63,127],192,ons [1,3,5,7,9,10,13,14] .done),(22,[0,1,0,4,3,19,63,127],192,ons [1,3,5,7,9,10,13,14] .done),(24,[0,1,0,4,3,19,63,127],192,ons [1,3,5,7,9,10,13,14] .done),(26,[0,1,0,4,3,19,63,127],192,ons [1,3,5,7,9,10,13,14] .done),(28,[0,1,0,4,3,19,63,127],192,ons [1,3,5,7,9,10,13,14] .done),(3,[0,1,0,4,0,16,0,64,0,256,0,1024,0,4096,0,16384,3,65539,196623,458767,983103,2031679,4129023,8323327,16712703,33489919,67047423,134156287,268386303,536821759,1073741823,2147483647],3221225472,ons [1,3,5,7,9,11,13,15,17,19,21,23,25,27,29,31,33,34,37,38,41,42,45,46,49,50,53,54,57,58,61,62] .done)],[],[(29,[],rg 9 131),(20,[(102,4)],[102,103,104])]⟩
def SW87 (k:Value) (R:RT) (w:World):Prop:=
  gNew (k.cells) 63 (fun a bB=>gNew #[.int .i64 0,.int .u32 0,.int .u32 0,.int .u64 0,.int .u32 0,.int .u32 0,.int .u32 0,.slice none 0 0,.slice none 0 0,.slice none 0 0,.slice none 0 0,.string (ByteArray.mk #[]),.int .u8 0,.slice none 0 0,.slice none 0 0,.slice none 0 0,.slice none 0 0,.int .u32 0,.slice none 0 0,.int .u32 0,.int .u16 0,.int .u16 0,.int .u32 0,.int .u8 0,.slice none 0 0,.slice none 0 0,.bool false,.int .u8 0,.int .u8 0,.int .u16 0] 63 (fun l n=>∃Y,n.cell? (a.add 0)=some (.int .i64 Y)/\∃Z,n.cell? (a.add 1)=some (.int .u32 Z)/\gNew #[.int .i64 0,.int .u32 0,.int .u32 0,.int .u64 0,.int .u32 0,.int .u32 0,.int .u32 0,.slice none 0 0,.slice none 0 0,.slice none 0 0,.slice none 0 0,.string (ByteArray.mk #[]),.int .u8 0,.slice none 0 0,.slice none 0 0,.slice none 0 0,.slice none 0 0,.int .u32 0,.slice none 0 0,.int .u32 0,.int .u16 0,.int .u16 0,.int .u32 0,.int .u8 0,.slice none 0 0,.slice none 0 0,.bool false,.int .u8 0,.int .u8 0,.int .u16 0] 63 (fun d bC=>∃b,StV pg 63 d (.agg #[.int .i64 Y,.int .u32 Z,.int .u32 0,.int .u64 0,.int .u32 0,.int .u32 0,.int .u32 0,.slice none 0 0,.slice none 0 0,.slice none 0 0,.slice none 0 0,.string (ByteArray.mk #[]),.int .u8 0,.slice none 0 0,.slice none 0 0,.slice none 0 0,.slice none 0 0,.int .u32 0,.slice none 0 0,.int .u32 0,.int .u16 0,.int .u16 0,.int .u32 0,.int .u8 0,.slice none 0 0,.slice none 0 0,.bool false,.int .u8 0,.int .u8 0,.int .u16 0]) bC b/\∃g:NP,(∃e,b.cell? (a.add 0)=some (.int .i64 e)/\Br (e == 0) (∃aa ab ac,b.cell? (a.add 13)=some (.slice aa ab ac)/\∃o,StV pg 63 l (.agg #[.int .i64 0,.int .u32 0,.int .u32 0,.int .u64 0,.int .u32 0,.int .u32 0,.int .u32 0,.slice none 0 0,.slice none 0 0,.slice none 0 0,.slice none 0 0,.string (ByteArray.mk #[]),.int .u8 0,.slice aa ab ac,.slice none 0 0,.slice none 0 0,.slice none 0 0,.int .u32 0,.slice none 0 0,.int .u32 0,.int .u16 0,.int .u16 0,.int .u32 0,.int .u8 0,.slice none 0 0,.slice none 0 0,.bool false,.int .u8 0,.int .u8 0,.int .u16 0]) b o/\∃ad,LdV pg 63 l (ad) o/\R (.returned (ad)) o) (Br (e == 1) (∃i:Option Nat,Rk ((a.add 3)) i b.drew (∃ae,b.drew.cell? (a.add 3)=some (.int .u64 ae)/\Rk ((a.add 4)) i b.drew (∃af,b.drew.cell? (a.add 4)=some (.int .u32 af)/\Rk ((a.add 5)) i b.drew (∃ag,b.drew.cell? (a.add 5)=some (.int .u32 ag)/\Rk ((a.add 6)) i b.drew (∃ah,b.drew.cell? (a.add 6)=some (.int .u32 ah)/\Rk ((a.add 7)) i b.drew (∃ai aj ak,b.drew.cell? (a.add 7)=some (.slice ai aj ak)/\Rk ((a.add 8)) i b.drew (∃al am an,b.drew.cell? (a.add 8)=some (.slice al am an)/\∃p,StV pg 52 (d.add 3) (.int .u64 ae) b.drew p/\b.drew.grownBy p i/\∃q,StV pg 51 (d.add 4) (.int .u32 af) p q/\b.drew.grownBy q i/\∃r,StV pg 51 (d.add 5) (.int .u32 ag) q r/\b.drew.grownBy r i/\∃s,StV pg 51 (d.add 6) (.int .u32 ah) r s/\b.drew.grownBy s i/\∃t,StV pg 53 (d.add 7) (.slice ai aj ak) s t/\b.drew.grownBy t i/\∃ao,StV pg 22 (d.add 8) (.slice al am an) t ao/\g 0 ao))))))) (Br (e == 2) (∃u:Option Nat,Rk ((a.add 7)) u b.drew (∃ap aq ar,b.drew.cell? (a.add 7)=some (.slice ap aq ar)/\Rk ((a.add 8)) u b.drew (∃au av ax,b.drew.cell? (a.add 8)=some (.slice au av ax)/\∃v,StV pg 53 (d.add 7) (.slice ap aq ar) b.drew v/\b.drew.grownBy v u/\∃ay,StV pg 22 (d.add 8) (.slice au av ax) v ay/\g 0 ay))) (Br (e == 3) (∃az:Option Nat,Rk ((a.add 9)) az b.drew (∃aA aB aC,b.drew.cell? (a.add 9)=some (.slice aA aB aC)/\∃x,StV pg 51 (d.add 1) (.int .u32 0) b.drew x/\b.drew.grownBy x az/\∃aD,StV pg 54 (d.add 9) (.slice aA aB aC) x aD/\g 0 aD)) (Br (e == 4) (∃m:Option Nat,Rk ((a.add 10)) m b.drew (∃aE aF aG,b.drew.cell? (a.add 10)=some (.slice aE aF aG)/\Rk ((a.add 11)) m b.drew (∃aH,b.drew.cell? (a.add 11)=some (.string aH)/\∃y,StV pg 51 (d.add 1) (.int .u32 0) b.drew y/\b.drew.grownBy y m/\∃z,StV pg 55 (d.add 10) (.slice aE aF aG) y z/\b.drew.grownBy z m/\∃aI,StV pg 9 (d.add 11) (.string aH) z aI/\g 0 aI))) (Br (e == 5) (∃j:Option Nat,Rk ((a.add 12)) j b.drew (∃aJ,b.drew.cell? (a.add 12)=some (.int .u8 aJ)/\Rk ((a.add 11)) j b.drew (∃aK,b.drew.cell? (a.add 11)=some (.string aK)/\Rk ((a.add 13)) j b.drew (∃aL aM aN,b.drew.cell? (a.add 13)=some (.slice aL aM aN)/\∃A,StV pg 5 (d.add 12) (.int .u8 aJ) b.drew A/\b.drew.grownBy A j/\∃B,StV pg 9 (d.add 11) (.string aK) A B/\b.drew.grownBy B j/\∃aO,StV pg 22 (d.add 13) (.slice aL aM aN) B aO/\g 0 aO)))) (Br (e == 6) (∃C:Option Nat,Rk ((a.add 2)) C b.drew (∃aP,b.drew.cell? (a.add 2)=some (.int .u32 aP)/\Rk ((a.add 14)) C b.drew (∃aQ aS aT,b.drew.cell? (a.add 14)=some (.slice aQ aS aT)/\∃D,StV pg 51 (d.add 2) (.int .u32 aP) b.drew D/\b.drew.grownBy D C/\∃aU,StV pg 56 (d.add 14) (.slice aQ aS aT) D aU/\g 0 aU))) (∃E:Bool->NP,(Br (e == 7) (E (e == 7) 0 b) (E (e == 9) 0 b))/\∀(bD:NV) (F:Bool) (c:World),E F 0 c->Br F (∃aV,c.cell? (a.add 2)=some (.int .u32 aV)/\∃aW,StV pg 51 (d.add 2) (.int .u32 aV) c aW/\g 0 aW) (Br (e == 10) (∃G:Option Nat,Rk ((a.add 2)) G c.drew (∃aX,c.drew.cell? (a.add 2)=some (.int .u32 aX)/\Rk ((a.add 15)) G c.drew (∃aY aZ a0,c.drew.cell? (a.add 15)=some (.slice aY aZ a0)/\∃H,StV pg 51 (d.add 2) (.int .u32 aX) c.drew H/\c.drew.grownBy H G/\∃a1,StV pg 57 (d.add 15) (.slice aY aZ a0) H a1/\g 0 a1))) (Br (e == 11) (∃I:Option Nat,Rk ((a.add 2)) I c.drew (∃a2,c.drew.cell? (a.add 2)=some (.int .u32 a2)/\Rk ((a.add 16)) I c.drew (∃a3 a4 a5,c.drew.cell? (a.add 16)=some (.slice a3 a4 a5)/\∃J,StV pg 51 (d.add 2) (.int .u32 a2) c.drew J/\c.drew.grownBy J I/\∃a6,StV pg 58 (d.add 16) (.slice a3 a4 a5) J a6/\g 0 a6))) (Br (e == 12) (∃K:Option Nat,Rk ((a.add 17)) K c.drew (∃a7,c.drew.cell? (a.add 17)=some (.int .u32 a7)/\Rk ((a.add 10)) K c.drew (∃a8 a9 ba,c.drew.cell? (a.add 10)=some (.slice a8 a9 ba)/\∃L,StV pg 51 (d.add 17) (.int .u32 a7) c.drew L/\c.drew.grownBy L K/\∃bb,StV pg 55 (d.add 10) (.slice a8 a9 ba) L bb/\g 0 bb))) (Br (e == 8) (∃M:Option Nat,Rk ((a.add 18)) M c.drew (∃bc bd be,c.drew.cell? (a.add 18)=some (.slice bc bd be)/\Rk ((a.add 19)) M c.drew (∃bf,c.drew.cell? (a.add 19)=some (.int .u32 bf)/\∃N,StV pg 59 (d.add 18) (.slice bc bd be) c.drew N/\c.drew.grownBy N M/\∃bg,StV pg 51 (d.add 19) (.int .u32 bf) N bg/\g 0 bg))) (∃f:Option Nat,Rk ((a.add 2)) f c.drew (∃bh,c.drew.cell? (a.add 2)=some (.int .u32 bh)/\Rk ((a.add 20)) f c.drew (∃bi,c.drew.cell? (a.add 20)=some (.int .u16 bi)/\Rk ((a.add 21)) f c.drew (∃bj,c.drew.cell? (a.add 21)=some (.int .u16 bj)/\Rk ((a.add 22)) f c.drew (∃bk,c.drew.cell? (a.add 22)=some (.int .u32 bk)/\Rk ((a.add 23)) f c.drew (∃bl,c.drew.cell? (a.add 23)=some (.int .u8 bl)/\Rk ((a.add 24)) f c.drew (∃bm bn bo,c.drew.cell? (a.add 24)=some (.slice bm bn bo)/\Rk ((a.add 25)) f c.drew (∃bp bq br,c.drew.cell? (a.add 25)=some (.slice bp bq br)/\Rk ((a.add 26)) f c.drew (∃bs bt bu bv,LdV pg 42 (a.add 26) (.agg #[.bool bs,.int .u8 bt,.int .u8 bu,.int .u16 bv]) c.drew/\∃O,StV pg 51 (d.add 2) (.int .u32 bh) c.drew O/\c.drew.grownBy O f/\∃P,StV pg 40 (d.add 20) (.int .u16 bi) O P/\c.drew.grownBy P f/\∃Q,StV pg 40 (d.add 21) (.int .u16 bj) P Q/\c.drew.grownBy Q f/\∃S,StV pg 51 (d.add 22) (.int .u32 bk) Q S/\c.drew.grownBy S f/\∃T,StV pg 5 (d.add 23) (.int .u8 bl) S T/\c.drew.grownBy T f/\∃U,StV pg 60 (d.add 24) (.slice bm bn bo) T U/\c.drew.grownBy U f/\∃V,StV pg 61 (d.add 25) (.slice bp bq br) U V/\c.drew.grownBy V f/\∃bx,StV pg 42 (d.add 26) (.agg #[.bool bs,.int .u8 bt,.int .u8 bu,.int .u16 bv]) V bx/\g 0 bx)))))))))))))))))))))/\∀(bE:NV)  (W:World),g 0 W->∃bz,LdV pg 63 d (bz) W/\∃X,StV pg 63 l (bz) W X/\∃bA,LdV pg 63 l (bA) X/\R (.returned (bA)) X) n) bB) w
theorem of87 {k R w} (h:SW87 k R w):Calls pg 87 #[k] w R:=
  calls_by H87 _ Tryz.func87 h
def H88:Hints:=⟨[(2,[0,0,2,5,8,0,0,64,160,256,528,2047],3072,ons [3,5,13,15] (.two 0 5 (ons [7] (.two 4 5 (ons [10,17,18,21,22] .done) (ons [17] (.two 4 9 (ons [18,21,22] .done) (ons [8,21,22] .done))))) (ons [17] (.two 0 9 (ons [7] (.two 4 9 (ons [18,21,22] .done) (ons [8,21,22] .done))) (ons [0,7,8,21,22] .done))))),(4,[0,1,2,0,8,20,63],96,ons [1,3,7,9,4,10,13] .done),(11,[0,0,2,4,8,17,0,64,128,288,0,1024,2560,0,8192,20480,0,65536,163840,524287],786432,ons [1,3,5,7,9,13,15,17,21,23,27,29,33,35,10,18,24,30,36,39] .done),(17,[0,0,3,0,12,16,48,23,255],496,ons [1,3,7,4,9,11,13,15,16] .done),(19,[0,0,2,5,0,24,32,96,160,288,544,1056,47,8191],16352,ons [1,3,5,9,6,11,13,25,14,17,19,21,23,26] .done),(30,[0,0,2,0,8,16,32,68,129,0,512,1280,4095],6144,ons [1,3,5,7,9,11,13,19,21,14,16,22,25] .done),(43,[0,0,2,4,8,16,33,0,128,320,512,2047],3584,ons [1,3,5,7,9,15,17,10,12,18,20,23] .done),(46,[0,1,2,0,8,20,0,64,160,0,768,1024,3072,5120,9216,17408,33792,65536,196608,327680,589824,1114112,2162688,4259840,8388608,25165824,41943040,75497472,142606336,8389119,1073741823],2147482624,ons [1,3,7,9,13,15,19,4,10,16,21,23,24,27,29,31,33,35,36,39,41,43,45,47,49,59,50,53,55,57,60] .done),(48,[0,0,2,4,8,16,32,96,160,288,544,33,4095],8191,ons [1,3,4,7,9,11,13,23,14,17,19,21,24] .done),(52,[0,0,2,5,0,16,40,127],192,ons [1,3,5,9,11,6,12,15] .done),(58,[0,0,2,4,8,16,32,96,160,288,544,33,4095],8191,ons [1,3,4,7,9,11,13,23,14,17,19,21,24] .done),(66,[0,0,2,4,8,1,63],127,ons [1,3,11,4,7,9,12] .done),(70,[0,0,2,5,0,16,32,72,255],384,ons [1,3,5,9,11] (.two 3 6 (ons [12,14,17] .done) (ons [6,14,17] .done))),(74,[0,1,2,4,0,16,32,64,0,256,512,0,2048,4096,0,16384,42112,65544,0,393216,524288,1572864,2621440,4718592,8912896,786431,67108863],133693440,ons [1,3,9,11,13,15,17,19,21,23,25,27,29,31,37] (.two 2 16 (.two 3 16 (ons [32,34,39,41,51,42,45,47,49,52] .done) (ons [6,34,39,41,51,42,45,47,49,52] .done)) (ons [4,6,34,39,41,51,42,45,47,49,52] .done))),(81,[0,1,2,0,8,16,32,7,255],256,ons [1,3,7,9,11,13,4,15,16] .done),(86,[0,0,2,5,0,16,40,0,128,256,512,1088,4095],6144,ons [1,3,5,9,11,15,17,19,21,6,12,22,25] .done),(99,[0,0,0,1,11,31],32,ons [1,3,5,6,9,10] .done)],[(1,[(3,22),(88,3)],[3,8,9,10]++rg 88 17),(3,[(3,22),(127,3)],[3,12,14]++rg 127 45),(5,[(3,22),(138,3)],[3,14]++rg 138 29),(7,[(3,22),(182,3)],[3,16]++rg 182 8),(9,[(3,22),(263,3)],[3,18]++rg 263 12),(11,[(3,22),(295,3)],[3,20]++rg 295 36),(13,[(3,22),(341,3)],[3,22]++rg 341 13),(15,[(3,22),(390,3)],[3,26]++rg 390 8),(17,[(3,22),(410,3)],[3,28,30,31]++rg 410 73),(19,[(3,22),(436,3)],[3,30,31]++rg 436 44)],[(3,[],rg 32 11),(99,[(3,22)],[3,8,9,10,12,14,16,18,20,22,23,24,26,28,30,31]++rg 50 437),(9,[(52,4)],[52,53,54]),(12,[(3,22)],[3]++rg 58 22),(30,[],rg 142 12),(49,[(3,22)],[3]++rg 249 11),(56,[(275,4)],[275,276,277]),(59,[(3,22)],[3]++rg 281 11),(63,[],rg 299 16),(75,[(3,22)],[3]++rg 362 25),(86,[],rg 414 7),(91,[],rg 440 25)]⟩
def SW88 (aI:Value) (R:RT) (w:World):Prop:=
  gNew (aI.cells) 63 (fun a jm=>gNew #[.bool false,.int .u8 0,.int .u8 0,.int .u16 0] 42 (fun l jn=>gNew #[.bool false] 4 (fun b jo=>∃c,StV pg 4 b (.bool true) jo c/\∃H:NP,(∃e:Option Nat,Rk ((a.add 0)) e c.drew (∃s,c.drew.cell? (a.add 0)=some (.int .i64 s)/\Rk ((a.add 0)) e c.drew (∃t,c.drew.cell? (a.add 0)=some (.int .i64 t)/\(gNew #[.int .u8 0,.int .u8 200,.int .u8 201,.int .u8 202,.int .u8 203,.int .u8 204,.int .u8 205,.int .u8 205,.int .u8 205,.int .u8 206,.int .u8 206,.int .u8 206,.int .u8 206,.int .u8 205] 5 (fun jp al=>c.drew.grownBy al e/\∃aJ,Ix (some jp) aJ s 14 ((∃df,al.cell? (aJ.add (s.toNat*1))=some (.int .u8 df)/\c.drew.grownBy al e/\gNew #[.int .u8 0,.int .u8 0,.int .u8 0,.int .u8 0,.int .u8 0,.int .u8 0,.int .u8 1,.int .u8 5,.int .u8 11,.int .u8 1,.int .u8 2,.int .u8 4,.int .u8 15,.int .u8 15] 5 (fun jq aK=>c.drew.grownBy aK e/\∃dg,Ix (some jq) dg t 14 (∃dh,aK.cell? (dg.add (t.toNat*1))=some (.int .u8 dh)/\c.drew.grownBy aK e/\∃di,StV pg 42 l (.agg #[.bool false,.int .u8 dh,.int .u8 df,.int .u16 0]) aK di/\H 0 di)) al)/\(gNew #[.int .u8 0,.int .u8 0,.int .u8 0,.int .u8 0,.int .u8 0,.int .u8 0,.int .u8 1,.int .u8 5,.int .u8 11,.int .u8 1,.int .u8 2,.int .u8 4,.int .u8 15,.int .u8 15] 5 (fun jr p=>c.drew.grownBy p e/\∃bl,Ix (some jr) bl t 14 ((∃dj,p.cell? (aJ.add (s.toNat*1))=some (.int .u8 dj)/\c.drew.grownBy p e/\∃dk,p.cell? (bl.add (t.toNat*1))=some (.int .u8 dk)/\c.drew.grownBy p e/\∃dl,StV pg 42 l (.agg #[.bool false,.int .u8 dk,.int .u8 dj,.int .u16 0]) p dl/\H 0 dl)/\(∃dm,p.cell? (bl.add (t.toNat*1))=some (.int .u8 dm)/\c.drew.grownBy p e/\∃dn,p.cell? (aJ.add (s.toNat*1))=some (.int .u8 dn)/\c.drew.grownBy p e/\∃dp,StV pg 42 l (.agg #[.bool false,.int .u8 dm,.int .u8 dn,.int .u16 0]) p dp/\H 0 dp))) al))) c.drew)/\(gNew #[.int .u8 0,.int .u8 0,.int .u8 0,.int .u8 0,.int .u8 0,.int .u8 0,.int .u8 1,.int .u8 5,.int .u8 11,.int .u8 1,.int .u8 2,.int .u8 4,.int .u8 15,.int .u8 15] 5 (fun js am=>c.drew.grownBy am e/\∃aL,Ix (some js) aL t 14 ((gNew #[.int .u8 0,.int .u8 200,.int .u8 201,.int .u8 202,.int .u8 203,.int .u8 204,.int .u8 205,.int .u8 205,.int .u8 205,.int .u8 206,.int .u8 206,.int .u8 206,.int .u8 206,.int .u8 205] 5 (fun jt q=>c.drew.grownBy q e/\∃bm,Ix (some jt) bm s 14 ((∃dq,q.cell? (bm.add (s.toNat*1))=some (.int .u8 dq)/\c.drew.grownBy q e/\∃dr,q.cell? (aL.add (t.toNat*1))=some (.int .u8 dr)/\c.drew.grownBy q e/\∃ds,StV pg 42 l (.agg #[.bool false,.int .u8 dr,.int .u8 dq,.int .u16 0]) q ds/\H 0 ds)/\(∃dt,q.cell? (aL.add (t.toNat*1))=some (.int .u8 dt)/\c.drew.grownBy q e/\∃du,q.cell? (bm.add (s.toNat*1))=some (.int .u8 du)/\c.drew.grownBy q e/\∃dv,StV pg 42 l (.agg #[.bool false,.int .u8 dt,.int .u8 du,.int .u16 0]) q dv/\H 0 dv))) am)/\(∃dx,am.cell? (aL.add (t.toNat*1))=some (.int .u8 dx)/\c.drew.grownBy am e/\gNew #[.int .u8 0,.int .u8 200,.int .u8 201,.int .u8 202,.int .u8 203,.int .u8 204,.int .u8 205,.int .u8 205,.int .u8 205,.int .u8 206,.int .u8 206,.int .u8 206,.int .u8 206,.int .u8 205] 5 (fun ju aM=>c.drew.grownBy aM e/\∃dy,Ix (some ju) dy s 14 (∃dz,aM.cell? (dy.add (s.toNat*1))=some (.int .u8 dz)/\c.drew.grownBy aM e/\∃dA,StV pg 42 l (.agg #[.bool false,.int .u8 dx,.int .u8 dz,.int .u16 0]) aM dA/\H 0 dA)) am))) c.drew))))/\∀(kX:NV)  (I:World),H 0 I->∃bn:Option Nat,Rk ((a.add 1)) bn I.drew (∃dB,I.drew.cell? (a.add 1)=some (.int .u32 dB)/\Rk ((a.add 2)) bn I.drew (∃dC,I.drew.cell? (a.add 2)=some (.int .u32 dC)/\Calls pg 112 #[.slice none 0 0,.int .u32 dB] I.drew (fun en dD=>∃dE dF dG,en=.returned (.slice dE dF dG)/\I.drew.grownBy dD bn/\Calls pg 112 #[.slice dE dF dG,.int .u32 dC] dD (fun en bo=>∃J K L,en=.returned (.slice J K L)/\∃f:Option Addr->Nat->Nat->NP,(∃d,bo.cell? (a.add 0)=some (.int .i64 d)/\∃bp:Bool->NP,(Br (d == 1) (bp (d == 1) 0 bo) (bp (d == 2) 0 bo))/\∀(kY:NV) (bq:Bool) (k:World),bp bq 0 k->Br bq (∃dH,k.cell? (a.add 1)=some (.int .u32 dH)/\Calls pg 112 #[.slice none 0 0,.int .u32 dH] k (fun en g=>∃br bs bt,en=.returned (.slice br bs bt)/\∃bu:Option Addr->Nat->Nat->NP,(∃bv,g.cell? (a.add 0)=some (.int .i64 bv)/\Br (bv == 1) (∃A:Option Nat,Rk ((a.add 3)) A g.drew (∃dI,g.drew.cell? (a.add 3)=some (.int .u64 dI)/\Rk ((a.add 3)) A g.drew (∃dJ,g.drew.cell? (a.add 3)=some (.int .u64 dJ)/\Rk ((a.add 4)) A g.drew (∃dK,g.drew.cell? (a.add 4)=some (.int .u32 dK)/\Rk ((a.add 5)) A g.drew (∃dL,g.drew.cell? (a.add 5)=some (.int .u32 dL)/\Rk ((a.add 6)) A g.drew (∃dM,g.drew.cell? (a.add 6)=some (.int .u32 dM)/\Calls pg 112 #[.slice br bs bt,.int .u32 (u32.wrap (ishr .u64 dI 32))] g.drew (fun en dN=>∃dO dP dQ,en=.returned (.slice dO dP dQ)/\g.drew.grownBy dN A/\Calls pg 112 #[.slice dO dP dQ,.int .u32 (u32.wrap dJ)] dN (fun en dS=>∃dT dU dV,en=.returned (.slice dT dU dV)/\g.drew.grownBy dS A/\Calls pg 112 #[.slice dT dU dV,.int .u32 dK] dS (fun en dW=>∃dX dY dZ,en=.returned (.slice dX dY dZ)/\g.drew.grownBy dW A/\Calls pg 112 #[.slice dX dY dZ,.int .u32 dL] dW (fun en d0=>∃d1 d2 d3,en=.returned (.slice d1 d2 d3)/\g.drew.grownBy d0 A/\Calls pg 112 #[.slice d1 d2 d3,.int .u32 dM] d0 (fun en jv=>∃d4 d5 d6,en=.returned (.slice d4 d5 d6)/\bu d4 d5 d6 0 jv))))))))))) (bu br bs bt 0 g))/\∀(kZ:NV) (d7:Option Addr) (d8 d9:Nat) (bx:World),bu d7 d8 d9 0 bx->∃jx ea jy,bx.cell? (a.add 7)=some (.slice jx ea jy)/\Calls pg 111 #[.int .i64 (ea:Int),.pointer (some b),.pointer (some l)] bx (fun en eb=>en=.returned (.tuple #[])/\∃ec aN jz,eb.cell? (a.add 7)=some (.slice ec aN jz)/\∃aO:Option Addr->Nat->Nat->Int->NP,(∃jA,aO d7 d8 d9 0 jA eb)/\∀(k0:NV) (bz:Option Addr) (bA bB:Nat) (M:Int) (bC:Nat) (B:World),aO bz bA bB M bC B->Br (decide (M < (aN:Int))) (∃ed,Ix ec ed M aN (∃ee ef eg eh ei ej ek,LdV pg 144 (ed.add (M.toNat*7)) (.agg #[.int .u32 ee,.int .u8 ef,.int .u32 eg,.int .u32 eh,.int .u32 ei,.int .u32 ej,.int .u32 ek]) B/\gNew #[.int .u32 0,.int .u8 0,.int .u32 0,.int .u32 0,.int .u32 0,.int .u32 0,.int .u32 0] 144 (fun el jB=>∃bD,StV pg 144 el (.agg #[.int .u32 ee,.int .u8 ef,.int .u32 eg,.int .u32 eh,.int .u32 ei,.int .u32 ej,.int .u32 ek]) jB bD/\∃em eo ep eq er es et,LdV pg 144 el (.agg #[.int .u32 em,.int .u8 eo,.int .u32 ep,.int .u32 eq,.int .u32 er,.int .u32 es,.int .u32 et]) bD/\Calls pg 113 #[.agg #[.int .u32 em,.int .u8 eo,.int .u32 ep,.int .u32 eq,.int .u32 er,.int .u32 es,.int .u32 et]] bD (fun en aP=>∃eu ev ex ey,en=.returned (.tuple #[.slice eu ev ex,.bool ey])/\∃ez:Option Nat,Rk b ez aP.drew (∃bE,aP.drew.cell? b=some (.bool bE)/\∃bF bG bH aQ,(Builtin.append_ #[22,22] 22 #[.slice bz bA bB,.slice eu ev ex]).run pg aP.drew=.ok (.slice bF bG bH) aQ/\aP.drew.grownBy aQ ez/\Br bE (∃eA,StV pg 4 b (.bool ey) aQ eA/\∃an,an < bC/\aO bF bG bH (i64.wrap (M+1)) an eA) (∃eB,StV pg 4 b (.bool false) aQ eB/\∃an,an < bC/\aO bF bG bH (i64.wrap (M+1)) an eB)))) B)) (∃bI:Option Nat,Rk ((a.add 8)) bI B.drew (∃eC eD eE,B.drew.cell? (a.add 8)=some (.slice eC eD eE)/\Rk b bI B.drew (∃bJ,B.drew.cell? b=some (.bool bJ)/\∃bK bL bM ao,(Builtin.append_ #[22,22] 22 #[.slice bz bA bB,.slice eC eD eE]).run pg B.drew=.ok (.slice bK bL bM) ao/\B.drew.grownBy ao bI/\Br bJ (∃jC eF jD,ao.cell? (a.add 8)=some (.slice jC eF jD)/\(4:Int)≠0/\∃eG,StV pg 4 b (.bool (((eF:Int).tmod 4) == 0)) ao eG/\f bK bL bM 0 eG) (∃eH,StV pg 4 b (.bool false) ao eH/\f bK bL bM 0 eH))))))) (Br (d == 3) (∃jE eI jF,k.cell? (a.add 9)=some (.slice jE eI jF)/\Calls pg 111 #[.int .i64 (eI:Int),.pointer (some b),.pointer (some l)] k (fun en eJ=>en=.returned (.tuple #[])/\∃eK aS jG,eJ.cell? (a.add 9)=some (.slice eK aS jG)/\∃bN:Option Addr->Nat->Nat->Int->NP,(∃jH,bN none 0 0 0 jH eJ)/\∀(k1:NV) (bO:Option Addr) (bP bQ:Nat) (Z:Int) (eL:Nat) (aT:World),bN bO bP bQ Z eL aT->Br (decide (Z < (aS:Int))) (∃eM,Ix eK eM Z aS (∃eN eO eP eQ,LdV pg 147 (eM.add (Z.toNat*2)) (.agg #[.int .u32 eN,.slice eO eP eQ]) aT/\gNew #[.int .u32 0,.slice none 0 0] 147 (fun bS jI=>∃bT,StV pg 147 bS (.agg #[.int .u32 eN,.slice eO eP eQ]) jI bT/\∃eS,bT.cell? (bS.add 0)=some (.int .u32 eS)/\Calls pg 112 #[.slice bO bP bQ,.int .u32 eS] bT (fun en eT=>∃eU eV eW,en=.returned (.slice eU eV eW)/\∃eX aU jJ,eT.cell? (bS.add 1)=some (.slice eX aU jJ)/\∃bU:Option Addr->Nat->Nat->Int->NP,(∃jK,bU eU eV eW 0 jK eT)/\∀(k2:NV) (bV:Option Addr) (bW bX:Nat) (aa:Int) (eY:Nat) (aV:World),bU bV bW bX aa eY aV->Br (decide (aa < (aU:Int))) (∃eZ,Ix eX eZ aa aU (∃e0 e1,LdV pg 149 (eZ.add (aa.toNat*2)) (.agg #[.int .u8 e0,.string e1]) aV/\gNew #[.int .u8 0,.string (ByteArray.mk #[])] 149 (fun C jL=>∃N,StV pg 149 C (.agg #[.int .u8 e0,.string e1]) jL N/\∃aW:NP,(∃bY,N.cell? b=some (.bool bY)/\Br bY (∃bZ,N.cell? (C.add 0)=some (.int .u8 bZ)/\Br (bZ != 0) (∃e2,N.cell? (C.add 1)=some (.string e2)/\∃e3,StV pg 4 b (.bool (decide (((e2.size:Nat):Int)<=255))) N e3/\aW 0 e3) (∃e4,StV pg 4 b (.bool false) N e4/\aW 0 e4)) (∃e5,StV pg 4 b (.bool false) N e5/\aW 0 e5))/\∀(k3:NV)  (u:World),aW 0 u->∃ap:Option Nat,Rk ((C.add 0)) ap u.drew (∃e6,u.drew.cell? (C.add 0)=some (.int .u8 e6)/\Rk ((C.add 1)) ap u.drew (∃e7,u.drew.cell? (C.add 1)=some (.string e7)/\Rk ((C.add 1)) ap u.drew (∃e8,u.drew.cell? (C.add 1)=some (.string e8)/\gNew #[.int .u8 e6,.int .u8 (u8.wrap ((e7.size:Nat):Int))] 5 (fun jM e9=>u.drew.grownBy e9 ap/\∃fa fb fc b0,(Builtin.append_ #[22,22] 22 #[.slice bV bW bX,.slice (some jM) 2 2]).run pg e9=.ok (.slice fa fb fc) b0/\u.drew.grownBy b0 ap/\∃fd fe ff fg,(Builtin.append_ #[22,9] 22 #[.slice fa fb fc,.string e8]).run pg b0=.ok (.slice fd fe ff) fg/\∃fh,fh < eY/\bU fd fe ff (i64.wrap (aa+1)) fh fg) u.drew)))) aV)) (((.int .u8 0:Value).cells).size=1/\gNew (#[.int .u8 0]) 5 (fun jN jO=>∃fi fj fk fl,(Builtin.append_ #[22,22] 22 #[.slice bV bW bX,.slice (some jN) 1 1]).run pg jO=.ok (.slice fi fj fk) fl/\Calls pg 114 #[.slice fi fj fk] fl (fun en jP=>∃fm fn fo,en=.returned (.slice fm fn fo)/\∃fp,fp < eL/\bN fm fn fo (i64.wrap (Z+1)) fp jP)) aV))) aT)) (f bO bP bQ 0 aT))) (Br (d == 4) (∃jQ fq jS,k.cell? (a.add 10)=some (.slice jQ fq jS)/\Calls pg 111 #[.int .i64 (fq:Int),.pointer (some b),.pointer (some l)] k (fun en fr=>en=.returned (.tuple #[])/\∃fs aX jT,fr.cell? (a.add 10)=some (.slice fs aX jT)/\∃b1:Option Addr->Nat->Nat->Int->NP,(∃jU,b1 none 0 0 0 jU fr)/\∀(k4:NV) (ab:Option Addr) (ac ad:Nat) (ae:Int) (ft:Nat) (O:World),b1 ab ac ad ae ft O->Br (decide (ae < (aX:Int))) (∃fu,Ix fs fu ae aX (∃fv,O.cell? (fu.add (ae.toNat*1))=some (.int .u32 fv)/\Calls pg 112 #[.slice ab ac ad,.int .u32 fv] O (fun en jV=>∃fx fy fz,en=.returned (.slice fx fy fz)/\∃fA,fA < ft/\b1 fx fy fz (i64.wrap (ae+1)) fA jV))) (∃b2,O.cell? b=some (.bool b2)/\Br b2 (∃fB,O.cell? (a.add 11)=some (.string fB)/\∃v,StV pg 4 b (.bool (decide (((fB.size:Nat):Int)<=255))) O v/\∃b3,v.cell? (a.add 11)=some (.string b3)/\Br (!(b3.toList == (ByteArray.mk #[]).toList)) (∃aY:Option Nat,Rk ((a.add 11)) aY v.drew (∃b4,v.drew.cell? (a.add 11)=some (.string b4)/\Rk ((a.add 11)) aY v.drew (∃fC,v.drew.cell? (a.add 11)=some (.string fC)/\((.int .u8 (u8.wrap ((b4.size:Nat):Int)):Value).cells).size=1/\gNew (#[.int .u8 (u8.wrap ((b4.size:Nat):Int))]) 5 (fun jW fD=>v.drew.grownBy fD aY/\∃fE fF fG b5,(Builtin.append_ #[22,22] 22 #[.slice ab ac ad,.slice (some jW) 1 1]).run pg fD=.ok (.slice fE fF fG) b5/\v.drew.grownBy b5 aY/\∃fH fI fJ fK,(Builtin.append_ #[22,9] 22 #[.slice fE fF fG,.string fC]).run pg b5=.ok (.slice fH fI fJ) fK/\Calls pg 114 #[.slice fH fI fJ] fK (fun en jX=>∃fL fM fN,en=.returned (.slice fL fM fN)/\f fL fM fN 0 jX)) v.drew))) (f ab ac ad 0 v)) (∃x,StV pg 4 b (.bool false) O x/\∃b6,x.cell? (a.add 11)=some (.string b6)/\Br (!(b6.toList == (ByteArray.mk #[]).toList)) (∃aZ:Option Nat,Rk ((a.add 11)) aZ x.drew (∃b7,x.drew.cell? (a.add 11)=some (.string b7)/\Rk ((a.add 11)) aZ x.drew (∃fO,x.drew.cell? (a.add 11)=some (.string fO)/\((.int .u8 (u8.wrap ((b7.size:Nat):Int)):Value).cells).size=1/\gNew (#[.int .u8 (u8.wrap ((b7.size:Nat):Int))]) 5 (fun jY fP=>x.drew.grownBy fP aZ/\∃fQ fS fT b8,(Builtin.append_ #[22,22] 22 #[.slice ab ac ad,.slice (some jY) 1 1]).run pg fP=.ok (.slice fQ fS fT) b8/\x.drew.grownBy b8 aZ/\∃fU fV fW fX,(Builtin.append_ #[22,9] 22 #[.slice fQ fS fT,.string fO]).run pg b8=.ok (.slice fU fV fW) fX/\Calls pg 114 #[.slice fU fV fW] fX (fun en jZ=>∃fY fZ f0,en=.returned (.slice fY fZ f0)/\f fY fZ f0 0 jZ)) x.drew))) (f ab ac ad 0 x))))) (Br (d == 5) (∃f1,k.cell? (a.add 12)=some (.int .u8 f1)/\Calls pg 111 #[.int .i64 (i64.wrap f1),.pointer (some b),.pointer (some l)] k (fun en o=>en=.returned (.tuple #[])/\∃P:Option Nat,Rk ((a.add 1)) P o.drew (∃f2,o.drew.cell? (a.add 1)=some (.int .u32 f2)/\Rk ((a.add 11)) P o.drew (∃f3,o.drew.cell? (a.add 11)=some (.string f3)/\Rk ((a.add 13)) P o.drew (∃f4 f5 f6,o.drew.cell? (a.add 13)=some (.slice f4 f5 f6)/\Rk b P o.drew (∃b9,o.drew.cell? b=some (.bool b9)/\Calls pg 112 #[.slice none 0 0,.int .u32 f2] o.drew (fun en f7=>∃f8 f9 ga,en=.returned (.slice f8 f9 ga)/\o.drew.grownBy f7 P/\∃gb gc gd ca,(Builtin.append_ #[22,9] 22 #[.slice f8 f9 ga,.string f3]).run pg f7=.ok (.slice gb gc gd) ca/\o.drew.grownBy ca P/\∃aq ar au D,(Builtin.append_ #[22,22] 22 #[.slice gb gc gd,.slice f4 f5 f6]).run pg ca=.ok (.slice aq ar au) D/\o.drew.grownBy D P/\Br b9 (∃cb,D.cell? (a.add 11)=some (.string cb)/\Br (((cb.size:Nat):Int) == 4) (∃j0 cc j1,D.cell? (a.add 13)=some (.slice j0 cc j1)/\(4:Int)≠0/\Br (((cc:Int).tmod 4) == 0) (∃j2 ge j3,D.cell? (a.add 13)=some (.slice j2 ge j3)/\∃gf,StV pg 4 b (.bool (decide ((ge:Int)<=65520))) D gf/\f aq ar au 0 gf) (∃gg,StV pg 4 b (.bool false) D gg/\f aq ar au 0 gg)) (∃gh,StV pg 4 b (.bool false) D gh/\f aq ar au 0 gh)) (∃gi,StV pg 4 b (.bool false) D gi/\f aq ar au 0 gi)))))))) (Br (d == 6) (∃cd:Option Addr->Nat->Nat->NP,(∃j4 ce j5,k.drew.cell? (a.add 14)=some (.slice j4 ce j5)/\Br (decide ((ce:Int) > 0)) (∃j6 gj j7,k.drew.cell? (a.add 14)=some (.slice j6 gj j7)/\∃gk,StV pg 4 b (.bool (decide ((gj:Int)<=253))) k.drew gk/\cd J K L 0 gk) (∃gl,StV pg 4 b (.bool false) k.drew gl/\cd J K L 0 gl))/\∀(k5:NV) (gm:Option Addr) (gn go:Nat) (cf:World),cd gm gn go 0 cf->∃gp a0 j8,cf.cell? (a.add 14)=some (.slice gp a0 j8)/\∃cg:Option Addr->Nat->Nat->Int->NP,(∃j9,cg gm gn go 0 j9 cf)/\∀(k6:NV) (ch:Option Addr) (ci cj:Nat) (af:Int) (gq:Nat) (a1:World),cg ch ci cj af gq a1->Br (decide (af < (a0:Int))) (∃gr,Ix gp gr af a0 (∃gs gt,LdV pg 151 (gr.add (af.toNat*2)) (.agg #[.int .u16 gs,.int .u16 gt]) a1/\gNew #[.int .u16 0,.int .u16 0] 151 (fun av ka=>∃Q,StV pg 151 av (.agg #[.int .u16 gs,.int .u16 gt]) ka Q/\∃ck:Option Nat,Rk ((av.add 0)) ck Q.drew (∃gu,Q.drew.cell? (av.add 0)=some (.int .u16 gu)/\Rk ((av.add 1)) ck Q.drew (∃gv,Q.drew.cell? (av.add 1)=some (.int .u16 gv)/\Calls pg 49 #[.slice ch ci cj,.int .u16 gu] Q.drew (fun en gx=>∃gy gz gA,en=.returned (.slice gy gz gA)/\Q.drew.grownBy gx ck/\Calls pg 49 #[.slice gy gz gA,.int .u16 gv] gx (fun en kb=>∃gB gC gD,en=.returned (.slice gB gC gD)/\∃gE,gE < gq/\cg gB gC gD (i64.wrap (af+1)) gE kb))))) a1)) (f ch ci cj 0 a1)) (∃cl:Bool->NP,(Br (d == 7) (cl (d == 7) 0 k) (cl (d == 9) 0 k))/\∀(k7:NV) (cm:Bool) (i:World),cl cm 0 i->Br cm (f J K L 0 i) (Br (d == 10) (∃cn:Option Addr->Nat->Nat->NP,(∃kc co kd,i.drew.cell? (a.add 15)=some (.slice kc co kd)/\Br (decide ((co:Int) > 0)) (∃ke gF kf,i.drew.cell? (a.add 15)=some (.slice ke gF kf)/\∃gG,StV pg 4 b (.bool (decide ((gF:Int)<=253))) i.drew gG/\cn J K L 0 gG) (∃gH,StV pg 4 b (.bool false) i.drew gH/\cn J K L 0 gH))/\∀(k8:NV) (gI:Option Addr) (gJ gK:Nat) (cp:World),cn gI gJ gK 0 cp->∃gL a2 kg,cp.cell? (a.add 15)=some (.slice gL a2 kg)/\∃cq:Option Addr->Nat->Nat->Int->NP,(∃kh,cq gI gJ gK 0 kh cp)/\∀(k9:NV) (cr:Option Addr) (cs ct:Nat) (ag:Int) (gM:Nat) (a3:World),cq cr cs ct ag gM a3->Br (decide (ag < (a2:Int))) (∃gN,Ix gL gN ag a2 (∃gO gP gQ,LdV pg 153 (gN.add (ag.toNat*3)) (.agg #[.int .u16 gO,.int .u16 gP,.int .u8 gQ]) a3/\gNew #[.int .u16 0,.int .u16 0,.int .u8 0] 153 (fun S ki=>∃E,StV pg 153 S (.agg #[.int .u16 gO,.int .u16 gP,.int .u8 gQ]) ki E/\∃ax:NP,(∃cu,E.cell? b=some (.bool cu)/\Br cu (∃cv,E.cell? (S.add 0)=some (.int .u16 cv)/\Br (decide (cv < 8192)) (∃cx,E.cell? (S.add 1)=some (.int .u16 cx)/\Br (decide (cx < 8192)) (∃gS,E.cell? (S.add 2)=some (.int .u8 gS)/\∃gT,StV pg 4 b (.bool (decide (gS < 64))) E gT/\ax 0 gT) (∃gU,StV pg 4 b (.bool false) E gU/\ax 0 gU)) (∃gV,StV pg 4 b (.bool false) E gV/\ax 0 gV)) (∃gW,StV pg 4 b (.bool false) E gW/\ax 0 gW))/\∀(la:NV)  (ay:World),ax 0 ay->∃gX,ay.cell? (S.add 0)=some (.int .u16 gX)/\∃gY,ay.cell? (S.add 1)=some (.int .u16 gY)/\∃gZ,ay.cell? (S.add 2)=some (.int .u8 gZ)/\Calls pg 112 #[.slice cr cs ct,.int .u32 (ior .u32 (ior .u32 (ishl .u32 (u32.wrap gX) 19) (ishl .u32 (u32.wrap gY) 6)) (u32.wrap gZ))] ay (fun en kj=>∃g0 g1 g2,en=.returned (.slice g0 g1 g2)/\∃g3,g3 < gM/\cq g0 g1 g2 (i64.wrap (ag+1)) g3 kj)) a3)) (f cr cs ct 0 a3)) (Br (d == 11) (∃kk g4 kl,i.drew.cell? (a.add 16)=some (.slice kk g4 kl)/\∃cy,StV pg 4 b (.bool (decide ((g4:Int) > 0))) i.drew cy/\∃g5 a4 km,cy.cell? (a.add 16)=some (.slice g5 a4 km)/\∃a5:Option Addr->Nat->Nat->Int->NP,(∃kn,a5 J K L 0 kn cy)/\∀(lb:NV) (a6:Option Addr) (a7 a8:Nat) (T:Int) (cz:Nat) (a9:World),a5 a6 a7 a8 T cz a9->Br (decide (T < (a4:Int))) (∃g6,Ix g5 g6 T a4 (∃g7 g8,LdV pg 155 (g6.add (T.toNat*2)) (.agg #[.int .u32 g7,.int .u8 g8]) a9/\gNew #[.int .u32 0,.int .u8 0] 155 (fun az ko=>∃r,StV pg 155 az (.agg #[.int .u32 g7,.int .u8 g8]) ko r/\∃ah:Option Nat,Rk ((az.add 0)) ah r.drew (∃cA,r.drew.cell? (az.add 0)=some (.int .u32 cA)/\Rk ((az.add 1)) ah r.drew (∃cB,r.drew.cell? (az.add 1)=some (.int .u8 cB)/\(Calls pg 112 #[.slice a6 a7 a8,.int .u32 cA] r.drew (fun en g9=>∃ha hb hc,en=.returned (.slice ha hb hc)/\r.drew.grownBy g9 ah/\gNew #[.int .u8 cB,.int .u8 0,.int .u8 0,.int .u8 0] 5 (fun kp hd=>r.drew.grownBy hd ah/\∃he hf hg hh,(Builtin.append_ #[22,22] 22 #[.slice ha hb hc,.slice (some kp) 4 4]).run pg hd=.ok (.slice he hf hg) hh/\∃aA,aA < cz/\a5 he hf hg (i64.wrap (T+1)) aA hh) g9))/\(gNew #[.int .u8 cB,.int .u8 0,.int .u8 0,.int .u8 0] 5 (fun kq hi=>r.drew.grownBy hi ah/\Calls pg 112 #[.slice a6 a7 a8,.int .u32 cA] hi (fun en hj=>∃hk hl hm,en=.returned (.slice hk hl hm)/\r.drew.grownBy hj ah/\∃hn ho hp hq,(Builtin.append_ #[22,22] 22 #[.slice hk hl hm,.slice (some kq) 4 4]).run pg hj=.ok (.slice hn ho hp) hq/\∃aA,aA < cz/\a5 hn ho hp (i64.wrap (T+1)) aA hq)) r.drew)))) a9)) (f a6 a7 a8 0 a9)) (Br (d == 12) (∃hr,i.cell? (a.add 17)=some (.int .u32 hr)/\Calls pg 115 #[.int .u32 hr] i (fun en j=>∃y U,en=.returned (.tuple #[.int .u32 y,.bool U])/\∃V:Option Addr->Nat->Nat->NP,(∃m:Option Nat,Rk ((a.add 1)) m j.drew (∃cC,j.drew.cell? (a.add 1)=some (.int .u32 cC)/\Rk ((a.add 10)) m j.drew (∃kr ba ks,j.drew.cell? (a.add 10)=some (.slice kr ba ks)/\(Calls pg 112 #[.slice none 0 0,.int .u32 cC] j.drew (fun en cD=>∃cE cF cG,en=.returned (.slice cE cF cG)/\j.drew.grownBy cD m/\(Calls pg 112 #[.slice cE cF cG,.int .u32 0] cD (fun en hs=>∃ht hu hv,en=.returned (.slice ht hu hv)/\j.drew.grownBy hs m/\gNew #[.int .u8 82,.int .u8 69,.int .u8 77,.int .u8 66,.int .u8 (u8.wrap (ba:Int)),.int .u8 (u8.wrap (ishr .u32 y 16)),.int .u8 (u8.wrap (ishr .u32 y 8)),.int .u8 (u8.wrap y)] 5 (fun kt hx=>j.drew.grownBy hx m/\∃cH cI cJ aB,(Builtin.append_ #[22,22] 22 #[.slice ht hu hv,.slice (some kt) 8 8]).run pg hx=.ok (.slice cH cI cJ) aB/\j.drew.grownBy aB m/\Br U (∃ku hy kv,aB.cell? (a.add 10)=some (.slice ku hy kv)/\∃hz,StV pg 4 b (.bool (decide ((hy:Int)<=255))) aB hz/\V cH cI cJ 0 hz) (∃hA,StV pg 4 b (.bool false) aB hA/\V cH cI cJ 0 hA)) hs))/\(gNew #[.int .u8 82,.int .u8 69,.int .u8 77,.int .u8 66,.int .u8 (u8.wrap (ba:Int)),.int .u8 (u8.wrap (ishr .u32 y 16)),.int .u8 (u8.wrap (ishr .u32 y 8)),.int .u8 (u8.wrap y)] 5 (fun kx hB=>j.drew.grownBy hB m/\Calls pg 112 #[.slice cE cF cG,.int .u32 0] hB (fun en hC=>∃hD hE hF,en=.returned (.slice hD hE hF)/\j.drew.grownBy hC m/\∃cK cL cM aC,(Builtin.append_ #[22,22] 22 #[.slice hD hE hF,.slice (some kx) 8 8]).run pg hC=.ok (.slice cK cL cM) aC/\j.drew.grownBy aC m/\Br U (∃ky hG kz,aC.cell? (a.add 10)=some (.slice ky hG kz)/\∃hH,StV pg 4 b (.bool (decide ((hG:Int)<=255))) aC hH/\V cK cL cM 0 hH) (∃hI,StV pg 4 b (.bool false) aC hI/\V cK cL cM 0 hI))) cD)))/\(gNew #[.int .u8 82,.int .u8 69,.int .u8 77,.int .u8 66,.int .u8 (u8.wrap (ba:Int)),.int .u8 (u8.wrap (ishr .u32 y 16)),.int .u8 (u8.wrap (ishr .u32 y 8)),.int .u8 (u8.wrap y)] 5 (fun kA hJ=>j.drew.grownBy hJ m/\Calls pg 112 #[.slice none 0 0,.int .u32 cC] hJ (fun en hK=>∃hL hM hN,en=.returned (.slice hL hM hN)/\j.drew.grownBy hK m/\Calls pg 112 #[.slice hL hM hN,.int .u32 0] hK (fun en hO=>∃hP hQ hS,en=.returned (.slice hP hQ hS)/\j.drew.grownBy hO m/\∃cN cO cP aD,(Builtin.append_ #[22,22] 22 #[.slice hP hQ hS,.slice (some kA) 8 8]).run pg hO=.ok (.slice cN cO cP) aD/\j.drew.grownBy aD m/\Br U (∃kB hT kC,aD.cell? (a.add 10)=some (.slice kB hT kC)/\∃hU,StV pg 4 b (.bool (decide ((hT:Int)<=255))) aD hU/\V cN cO cP 0 hU) (∃hV,StV pg 4 b (.bool false) aD hV/\V cN cO cP 0 hV)))) j.drew))))/\∀(lc:NV) (hW:Option Addr) (hX hY:Nat) (cQ:World),V hW hX hY 0 cQ->∃hZ bb kD,cQ.cell? (a.add 10)=some (.slice hZ bb kD)/\∃cS:Option Addr->Nat->Nat->Int->NP,(∃kE,cS hW hX hY 0 kE cQ)/\∀(ld:NV) (cT:Option Addr) (cU cV:Nat) (ai:Int) (h0:Nat) (bc:World),cS cT cU cV ai h0 bc->Br (decide (ai < (bb:Int))) (∃h1,Ix hZ h1 ai bb (∃h2,bc.cell? (h1.add (ai.toNat*1))=some (.int .u32 h2)/\Calls pg 112 #[.slice cT cU cV,.int .u32 h2] bc (fun en kF=>∃h3 h4 h5,en=.returned (.slice h3 h4 h5)/\∃h6,h6 < h0/\cS h3 h4 h5 (i64.wrap (ai+1)) h6 kF))) (f cT cU cV 0 bc))) (Br (d == 8) (∃cW:Option Nat,Rk ((a.add 1)) cW i.drew (∃h7,i.drew.cell? (a.add 1)=some (.int .u32 h7)/\Rk ((a.add 18)) cW i.drew (∃kG h8 kH,i.drew.cell? (a.add 18)=some (.slice kG h8 kH)/\Calls pg 112 #[.slice none 0 0,.int .u32 h7] i.drew (fun en h9=>∃ia ib ic,en=.returned (.slice ia ib ic)/\i.drew.grownBy h9 cW/\∃cX,StV pg 4 b (.bool (decide ((h8:Int) > 0))) h9 cX/\∃id bd kI,cX.cell? (a.add 18)=some (.slice id bd kI)/\∃cY:Option Addr->Nat->Nat->Int->NP,(∃kJ,cY ia ib ic 0 kJ cX)/\∀(le:NV) (cZ:Option Addr) (c0 c1:Nat) (aj:Int) (ie:Nat) (aE:World),cY cZ c0 c1 aj ie aE->Br (decide (aj < (bd:Int))) (∃ig,Ix id ig aj bd (∃ih ii ij ik il,LdV pg 158 (ig.add (aj.toNat*3)) (.agg #[.int .u32 ih,.int .u16 ii,.slice ij ik il]) aE/\gNew #[.int .u32 0,.int .u16 0,.slice none 0 0] 158 (fun F kK=>∃aF,StV pg 158 F (.agg #[.int .u32 ih,.int .u16 ii,.slice ij ik il]) kK aF/\∃c2:NP,(∃c3,aF.cell? b=some (.bool c3)/\Br c3 (∃kL im kM,aF.cell? (F.add 2)=some (.slice kL im kM)/\∃io,StV pg 4 b (.bool (decide ((im:Int)<=16384))) aF io/\c2 0 io) (∃ip,StV pg 4 b (.bool false) aF ip/\c2 0 ip))/\∀(lf:NV)  (z:World),c2 0 z->∃aG:Option Nat,Rk ((F.add 0)) aG z.drew (∃iq,z.drew.cell? (F.add 0)=some (.int .u32 iq)/\Rk ((F.add 1)) aG z.drew (∃ir,z.drew.cell? (F.add 1)=some (.int .u16 ir)/\Rk ((F.add 2)) aG z.drew (∃kN it kO,z.drew.cell? (F.add 2)=some (.slice kN it kO)/\Calls pg 112 #[.slice cZ c0 c1,.int .u32 iq] z.drew (fun en iu=>∃iv ix iy,en=.returned (.slice iv ix iy)/\z.drew.grownBy iu aG/\Calls pg 49 #[.slice iv ix iy,.int .u16 ir] iu (fun en iz=>∃iA iB iC,en=.returned (.slice iA iB iC)/\z.drew.grownBy iz aG/\Calls pg 49 #[.slice iA iB iC,.int .u16 (u16.wrap (it:Int))] iz (fun en iD=>∃iE iF iG,en=.returned (.slice iE iF iG)/\∃iH be kP,iD.cell? (F.add 2)=some (.slice iH be kP)/\∃bf:Option Addr->Nat->Nat->Int->NP,(∃kQ,bf iE iF iG 0 kQ iD)/\∀(lg:NV) (bg:Option Addr) (bh bi:Nat) (W:Int) (c4:Nat) (bj:World),bf bg bh bi W c4 bj->Br (decide (W < (be:Int))) (∃iI,Ix iH iI W be (∃iJ iK iL,LdV pg 160 (iI.add (W.toNat*3)) (.agg #[.bool iJ,.int .u8 iK,.int .u16 iL]) bj/\gNew #[.bool false,.int .u8 0,.int .u16 0] 160 (fun G kS=>∃n,StV pg 160 G (.agg #[.bool iJ,.int .u8 iK,.int .u16 iL]) kS n/\∃X:NP,(∃c5,n.cell? b=some (.bool c5)/\Br c5 (∃c6,n.cell? (G.add 1)=some (.int .u8 c6)/\Br (decide (c6 < 4)) (∃c7,n.cell? (G.add 2)=some (.int .u16 c7)/\Br (decide (c7 < 8192)) (∃c8,n.cell? (G.add 0)=some (.bool c8)/\Br c8 (∃iM,StV pg 4 b (.bool true) n iM/\X 0 iM) (∃c9,n.cell? (G.add 1)=some (.int .u8 c9)/\Br (c9 == 0) (∃iN,n.cell? (G.add 2)=some (.int .u16 iN)/\∃iO,StV pg 4 b (.bool (iN == 0)) n iO/\X 0 iO) (∃iP,StV pg 4 b (.bool false) n iP/\X 0 iP))) (∃iQ,StV pg 4 b (.bool false) n iQ/\X 0 iQ)) (∃iS,StV pg 4 b (.bool false) n iS/\X 0 iS)) (∃iT,StV pg 4 b (.bool false) n iT/\X 0 iT))/\∀(lh:NV)  (ak:World),X 0 ak->∃da,ak.cell? (G.add 1)=some (.int .u8 da)/\∃db,ak.cell? (G.add 2)=some (.int .u16 db)/\∃dc,ak.cell? (G.add 0)=some (.bool dc)/\Br dc (Calls pg 49 #[.slice bg bh bi,.int .u16 (ior .u16 (ior .u16 (ishl .u16 (u16.wrap da) 13) db) 32768)] ak (fun en kT=>∃iU iV iW,en=.returned (.slice iU iV iW)/\∃aH,aH < c4/\bf iU iV iW (i64.wrap (W+1)) aH kT)) (Calls pg 49 #[.slice bg bh bi,.int .u16 (ior .u16 (ishl .u16 (u16.wrap da) 13) db)] ak (fun en kU=>∃iX iY iZ,en=.returned (.slice iX iY iZ)/\∃aH,aH < c4/\bf iX iY iZ (i64.wrap (W+1)) aH kU))) bj)) (Calls pg 114 #[.slice bg bh bi] bj (fun en kV=>∃i0 i1 i2,en=.returned (.slice i0 i1 i2)/\∃i3,i3 < ie/\cY i0 i1 i2 (i64.wrap (aj+1)) i3 kV))))))))) aE)) (∃i4,aE.cell? (a.add 19)=some (.int .u32 i4)/\Calls pg 112 #[.slice cZ c0 c1,.int .u32 i4] aE (fun en kW=>∃i5 i6 i7,en=.returned (.slice i5 i6 i7)/\f i5 i6 i7 0 kW)))))) (∃i8,StV pg 4 b (.bool false) i i8/\f none 0 0 0 i8)))))))))))/\∀(li:NV) (i9:Option Addr) (ja jb:Nat) (Y:World),f i9 ja jb 0 Y->∃dd:Option Nat,Rk l dd Y.drew (∃jc jd je jf,LdV pg 42 l (.agg #[.bool jc,.int .u8 jd,.int .u8 je,.int .u16 jf]) Y.drew/\Rk b dd Y.drew (∃jg,Y.drew.cell? b=some (.bool jg)/\∃de,StV pg 42 l (.agg #[.bool jc,.int .u8 jd,.int .u8 je,.int .u16 jf]) Y.drew de/\Y.drew.grownBy de dd/\∃bk,StV pg 4 b (.bool jg) de bk/\∃jh ji jj jk,LdV pg 42 l (.agg #[.bool jh,.int .u8 ji,.int .u8 jj,.int .u16 jk]) bk/\∃jl,bk.cell? b=some (.bool jl)/\R (.returned (.tuple #[.agg #[.bool jh,.int .u8 ji,.int .u8 jj,.int .u16 jk],.slice i9 ja jb,.bool jl])) bk))))))) jn) jm) w
theorem of88 {aI R w} (h:SW88 aI R w):Calls pg 88 #[aI] w R:=
  calls_by H88 _ Tryz.func88 h
def H89:Hints:=⟨[],[],[]⟩
def SW89 (a:Option Addr) (b d:Nat) (c:Int) (R:RT) (w:World):Prop:=
  ∃e,Ix a e 1 b (∃k,w.cell? (e.add ((1:Int).toNat*1))=some (.int .u8 k)/\∃f,Ix a f 0 b (∃g,StV pg 5 (f.add ((0:Int).toNat*1)) (.int .u8 (u8.wrap (ishr .u16 c 8))) w g/\∃i,Ix a i 1 b (∃j,StV pg 5 (i.add ((1:Int).toNat*1)) (.int .u8 (u8.wrap c)) g j/\R (.returned (.tuple #[])) j)))
theorem of89 {a b d c R w} (h:SW89 a b d c R w):Calls pg 89 #[.slice a b d,.int .u16 c] w R:=
  calls_by H89 _ Tryz.func89 h
def H90:Hints:=⟨[(1,[0,1,2,4,0,16,32,64,128,264,1023],1024,ons [1,3,5,7,9,11,13,15,17,19,21] .done)],[],[]⟩
def SW90 (a:Option Addr) (b c:Nat) (R:RT) (w:World):Prop:=
  ∃d,Ix a d 1 b (∃e,w.drew.cell? (d.add ((1:Int).toNat*1))=some (.int .u8 e)/\∃f,Ix a f 0 b (∃g,w.drew.cell? (f.add ((0:Int).toNat*1))=some (.int .u8 g)/\R (.returned (.int .u16 (ior .u16 (u16.wrap e) (ishl .u16 (u16.wrap g) 8)))) w.drew))
theorem of90 {a b c R w} (h:SW90 a b c R w):Calls pg 90 #[.slice a b c] w R:=
  calls_by H90 _ Tryz.func90 h
def H96:Hints:=⟨[],[(0,[(3,191),(8,3)],[3,5]++rg 8 23)],[]⟩
def SW96 (e:Option Addr) (c g:Nat) (R:RT) (w:World):Prop:=
  ∃i:Option Addr->Nat->Nat->Int->NP,(∃I,i none 0 0 0 I w)/\∀(M:NV) (j:Option Addr) (k l:Nat) (d:Int) (t:Nat) (f:World),i j k l d t f->Br (decide (d < (c:Int))) (∃u,Ix e u d c (∃v x y z A B C,LdV pg 166 (u.add (d.toNat*7)) (.agg #[.int .u32 v,.int .u8 x,.int .u32 y,.int .u32 z,.int .u32 A,.int .u32 B,.int .u32 C]) f/\gNew #[.int .u32 0,.int .u8 0,.int .u32 0,.int .u32 0,.int .u32 0,.int .u32 0,.int .u32 0] 166 (fun b J=>∃a,StV pg 166 b (.agg #[.int .u32 v,.int .u8 x,.int .u32 y,.int .u32 z,.int .u32 A,.int .u32 B,.int .u32 C]) J a/\∃m,a.cell? (b.add 0)=some (.int .u32 m)/\∃n,a.cell? (b.add 1)=some (.int .u8 n)/\∃o,a.cell? (b.add 2)=some (.int .u32 o)/\∃p,a.cell? (b.add 3)=some (.int .u32 p)/\∃q,a.cell? (b.add 4)=some (.int .u32 q)/\∃r,a.cell? (b.add 5)=some (.int .u32 r)/\∃s,a.cell? (b.add 6)=some (.int .u32 s)/\((.agg #[.int .u32 m,.int .u8 n,.int .u32 o,.int .u32 p,.int .u32 q,.int .u32 r,.int .u32 s]:Value).cells).size=7/\gNew (#[.int .u32 m,.int .u8 n,.int .u32 o,.int .u32 p,.int .u32 q,.int .u32 r,.int .u32 s]) 275 (fun K L=>∃D E F G,(Builtin.append_ #[191,191] 191 #[.slice j k l,.slice (some K) 1 1]).run pg L=.ok (.slice D E F) G/\∃H,H < t/\i D E F (i64.wrap (d+1)) H G) a) f)) (R (.returned (.slice j k l)) f)
theorem of96 {e c g R w} (h:SW96 e c g R w):Calls pg 96 #[.slice e c g] w R:=
  calls_by H96 _ Tryz.func96 h
def H97:Hints:=⟨[(11,[0,0,2,4,8,0,32,80,255,511,767],1792,ons [1,3,5,7,9,11,12,14,17,19,20] .done)],[(0,[(13,3)],[5,6,8]++rg 13 36),(2,[(23,3)],[8]++rg 23 15)],[]⟩
def SW97 (g:Option Addr) (b l:Nat) (R:RT) (w:World):Prop:=
  gNew (#[.slice none 0 0]) 252 (fun m ai=>∃n:Int->NP,(∃aj,n 0 aj ai)/\∀(au:NV) (c:Int) (C:Nat) (i:World),n c C i->Br (decide (c < (b:Int))) (∃D,Ix g D c b (∃E F G H,LdV pg 169 (D.add (c.toNat*2)) (.agg #[.int .u32 E,.slice F G H]) i/\gNew #[.int .u32 0,.slice none 0 0] 169 (fun o ak=>∃p,StV pg 169 o (.agg #[.int .u32 E,.slice F G H]) ak p/\∃I,p.cell? (o.add 0)=some (.int .u32 I)/\gNew #[.int .u32 0,.slice none 0 0] 255 (fun e al=>∃q,StV pg 255 e (.agg #[.int .u32 I,.slice none 0 0]) al q/\∃J j am,q.cell? (o.add 1)=some (.slice J j am)/\∃r:Int->NP,(∃an,r 0 an q)/\∀(av:NV) (d:Int) (K:Nat) (a:World),r d K a->Br (decide (d < (j:Int))) (∃L,Ix J L d j (∃M N,LdV pg 170 (L.add (d.toNat*2)) (.agg #[.int .u8 M,.string N]) a/\gNew #[.int .u8 0,.string (ByteArray.mk #[])] 170 (fun s ao=>∃f,StV pg 170 s (.agg #[.int .u8 M,.string N]) ao f/\∃O P Q,f.cell? (e.add 1)=some (.slice O P Q)/\∃t,f.cell? (s.add 0)=some (.int .u8 t)/\∃u,f.cell? (s.add 1)=some (.string u)/\((.agg #[.int .u8 t,.string u]:Value).cells).size=2/\gNew (#[.int .u8 t,.string u]) 258 (fun ap aq=>∃S T U V,(Builtin.append_ #[253,253] 253 #[.slice O P Q,.slice (some ap) 1 1]).run pg aq=.ok (.slice S T U) V/\∃W,StV pg 253 (e.add 1) (.slice S T U) V W/\∃X,X < K/\r (i64.wrap (d+1)) X W) f) a)) (∃k:Option Nat,∃v,some m=some v/\Rk ((v.add 0)) k a.drew (∃Y Z aa,a.drew.cell? (v.add 0)=some (.slice Y Z aa)/\Rk e k a.drew (∃x y z A,LdV pg 255 e (.agg #[.int .u32 x,.slice y z A]) a.drew/\((.agg #[.int .u32 x,.slice y z A]:Value).cells).size=2/\gNew (#[.int .u32 x,.slice y z A]) 255 (fun ar ab=>a.drew.grownBy ab k/\∃ac ad ae B,(Builtin.append_ #[250,250] 250 #[.slice Y Z aa,.slice (some ar) 1 1]).run pg ab=.ok (.slice ac ad ae) B/\a.drew.grownBy B k/\∃af,some m=some af/\∃ag,StV pg 250 (af.add 0) (.slice ac ad ae) B ag/\∃ah,ah < C/\n (i64.wrap (c+1)) ah ag) a.drew)))) p) i)) (R (.returned (.pointer (some m))) i)) w
theorem of97 {g b l R w} (h:SW97 g b l R w):Calls pg 97 #[.slice g b l] w R:=
  calls_by H97 _ Tryz.func97 h
def H98:Hints:=⟨[],[],[]⟩
def SW98 (a:Option Addr) (b c:Nat) (R:RT) (w:World):Prop:=
  (a.isNone=true->R (.returned (.slice none 0 0)) w)/\(a.isNone=false->gNew #[] 51 (fun i j=>∃d e f g,(Builtin.append_ #[55,55] 55 #[.slice (some i) 0 0,.slice a b c]).run pg j=.ok (.slice d e f) g/\R (.returned (.slice d e f)) g) w)
theorem of98 {a b c R w} (h:SW98 a b c R w):Calls pg 98 #[.slice a b c] w R:=
  calls_by H98 _ Tryz.func98 h
def H99:Hints:=⟨[],[(0,[(3,218),(11,3)],[3,5,6,8]++rg 11 34),(2,[(23,3)],[8]++rg 23 17)],[]⟩
def SW99 (f:Option Addr) (a n:Nat) (R:RT) (w:World):Prop:=
  ∃o:Option Addr->Nat->Nat->Int->NP,(∃ah,o none 0 0 0 ah w)/\∀(ar:NV) (p:Option Addr) (q r:Nat) (b:Int) (D:Nat) (g:World),o p q r b D g->Br (decide (b < (a:Int))) (∃E,Ix f E b a (∃F G H I J,LdV pg 176 (E.add (b.toNat*3)) (.agg #[.int .u32 F,.int .u16 G,.slice H I J]) g/\gNew #[.int .u32 0,.int .u16 0,.slice none 0 0] 176 (fun i ai=>∃j,StV pg 176 i (.agg #[.int .u32 F,.int .u16 G,.slice H I J]) ai j/\∃K,j.cell? (i.add 0)=some (.int .u32 K)/\∃L,j.cell? (i.add 1)=some (.int .u16 L)/\gNew #[.int .u32 0,.int .u16 0,.slice none 0 0] 278 (fun k aj=>∃s,StV pg 278 k (.agg #[.int .u32 K,.int .u16 L,.slice none 0 0]) aj s/\∃M l ak,s.cell? (i.add 2)=some (.slice M l ak)/\∃t:Int->NP,(∃al,t 0 al s)/\∀(au:NV) (c:Int) (N:Nat) (e:World),t c N e->Br (decide (c < (l:Int))) (∃O,Ix M O c l (∃P Q S,LdV pg 177 (O.add (c.toNat*3)) (.agg #[.bool P,.int .u8 Q,.int .u16 S]) e/\gNew #[.bool false,.int .u8 0,.int .u16 0] 177 (fun m am=>∃d,StV pg 177 m (.agg #[.bool P,.int .u8 Q,.int .u16 S]) am d/\∃T U V,d.cell? (k.add 2)=some (.slice T U V)/\∃u,d.cell? (m.add 0)=some (.bool u)/\∃v,d.cell? (m.add 1)=some (.int .u8 v)/\∃x,d.cell? (m.add 2)=some (.int .u16 x)/\((.agg #[.bool u,.int .u8 v,.int .u16 x]:Value).cells).size=3/\gNew (#[.bool u,.int .u8 v,.int .u16 x]) 281 (fun an ao=>∃W X Y Z,(Builtin.append_ #[276,276] 276 #[.slice T U V,.slice (some an) 1 1]).run pg ao=.ok (.slice W X Y) Z/\∃aa,StV pg 276 (k.add 2) (.slice W X Y) Z aa/\∃ab,ab < N/\t (i64.wrap (c+1)) ab aa) d) e)) (∃y z A B C,LdV pg 278 k (.agg #[.int .u32 y,.int .u16 z,.slice A B C]) e/\((.agg #[.int .u32 y,.int .u16 z,.slice A B C]:Value).cells).size=3/\gNew (#[.int .u32 y,.int .u16 z,.slice A B C]) 278 (fun ap aq=>∃ac ad ae af,(Builtin.append_ #[218,218] 218 #[.slice p q r,.slice (some ap) 1 1]).run pg aq=.ok (.slice ac ad ae) af/\∃ag,ag < D/\o ac ad ae (i64.wrap (b+1)) ag af) e)) j) g)) (R (.returned (.slice p q r)) g)
theorem of99 {f a n R w} (h:SW99 f a n R w):Calls pg 99 #[.slice f a n] w R:=
  calls_by H99 _ Tryz.func99 h
def H102:Hints:=⟨[],[(0,[(3,66),(8,3)],[3,5]++rg 8 10)],[]⟩
def SW102 (c:Option Addr) (a e:Nat) (R:RT) (w:World):Prop:=
  ∃f:Option Addr->Nat->Nat->Int->NP,(∃P,f none 0 0 0 P w)/\∀(V:NV) (g:Option Addr) (i j:Nat) (b:Int) (s:Nat) (d:World),f g i j b s d->Br (decide (b < (a:Int))) (∃t,Ix c t b a (∃u v x y z A B,LdV pg 275 (t.add (b.toNat*7)) (.agg #[.int .u32 u,.int .u8 v,.int .u32 x,.int .u32 y,.int .u32 z,.int .u32 A,.int .u32 B]) d/\gNew #[.int .u32 0,.int .u8 0,.int .u32 0,.int .u32 0,.int .u32 0,.int .u32 0,.int .u32 0] 275 (fun C Q=>∃k,StV pg 275 C (.agg #[.int .u32 u,.int .u8 v,.int .u32 x,.int .u32 y,.int .u32 z,.int .u32 A,.int .u32 B]) Q k/\∃D E F G H I J,LdV pg 275 C (.agg #[.int .u32 D,.int .u8 E,.int .u32 F,.int .u32 G,.int .u32 H,.int .u32 I,.int .u32 J]) k/\Calls pg 117 #[.agg #[.int .u32 D,.int .u8 E,.int .u32 F,.int .u32 G,.int .u32 H,.int .u32 I,.int .u32 J]] k (fun en S=>∃l m n o p q r,en=.returned (.agg #[.int .u32 l,.int .u8 m,.int .u32 n,.int .u32 o,.int .u32 p,.int .u32 q,.int .u32 r])/\((.agg #[.int .u32 l,.int .u8 m,.int .u32 n,.int .u32 o,.int .u32 p,.int .u32 q,.int .u32 r]:Value).cells).size=7/\gNew (#[.int .u32 l,.int .u8 m,.int .u32 n,.int .u32 o,.int .u32 p,.int .u32 q,.int .u32 r]) 166 (fun T U=>∃K L M N,(Builtin.append_ #[66,66] 66 #[.slice g i j,.slice (some T) 1 1]).run pg U=.ok (.slice K L M) N/\∃O,O < s/\f K L M (i64.wrap (b+1)) O N) S)) d)) (R (.returned (.slice g i j)) d)
theorem of102 {c a e R w} (h:SW102 c a e R w):Calls pg 102 #[.slice c a e] w R:=
  calls_by H102 _ Tryz.func102 h
def H103:Hints:=⟨[],[(0,[(3,67),(14,3)],[3,5,6,8]++rg 14 30),(2,[(24,3)],[8]++rg 24 15)],[]⟩
def SW103 (e:Option Addr) (R:RT) (w:World):Prop:=
  ∃A,e=some A/\∃B f ad,w.cell? (A.add 0)=some (.slice B f ad)/\∃k:Option Addr->Nat->Nat->Int->NP,(∃ae,k none 0 0 0 ae w)/\∀(ao:NV) (l:Option Addr) (m n:Nat) (a:Int) (C:Nat) (g:World),k l m n a C g->Br (decide (a < (f:Int))) (∃D,Ix B D a f (∃E F G H,LdV pg 255 (D.add (a.toNat*2)) (.agg #[.int .u32 E,.slice F G H]) g/\gNew #[.int .u32 0,.slice none 0 0] 255 (fun o af=>∃p,StV pg 255 o (.agg #[.int .u32 E,.slice F G H]) af p/\∃I,p.cell? (o.add 0)=some (.int .u32 I)/\gNew #[.int .u32 0,.slice none 0 0] 169 (fun i ag=>∃q,StV pg 169 i (.agg #[.int .u32 I,.slice none 0 0]) ag q/\∃J j ah,q.cell? (o.add 1)=some (.slice J j ah)/\∃r:Int->NP,(∃ai,r 0 ai q)/\∀(ap:NV) (b:Int) (K:Nat) (c:World),r b K c->Br (decide (b < (j:Int))) (∃L,Ix J L b j (∃M N,LdV pg 258 (L.add (b.toNat*2)) (.agg #[.int .u8 M,.string N]) c/\gNew #[.int .u8 0,.string (ByteArray.mk #[])] 258 (fun s aj=>∃d,StV pg 258 s (.agg #[.int .u8 M,.string N]) aj d/\∃O P Q,d.cell? (i.add 1)=some (.slice O P Q)/\∃t,d.cell? (s.add 0)=some (.int .u8 t)/\∃u,d.cell? (s.add 1)=some (.string u)/\((.agg #[.int .u8 t,.string u]:Value).cells).size=2/\gNew (#[.int .u8 t,.string u]) 170 (fun ak al=>∃S T U V,(Builtin.append_ #[167,167] 167 #[.slice O P Q,.slice (some ak) 1 1]).run pg al=.ok (.slice S T U) V/\∃W,StV pg 167 (i.add 1) (.slice S T U) V W/\∃X,X < K/\r (i64.wrap (b+1)) X W) d) c)) (∃v x y z,LdV pg 169 i (.agg #[.int .u32 v,.slice x y z]) c/\((.agg #[.int .u32 v,.slice x y z]:Value).cells).size=2/\gNew (#[.int .u32 v,.slice x y z]) 169 (fun am an=>∃Y Z aa ab,(Builtin.append_ #[67,67] 67 #[.slice l m n,.slice (some am) 1 1]).run pg an=.ok (.slice Y Z aa) ab/\∃ac,ac < C/\k Y Z aa (i64.wrap (a+1)) ac ab) c)) p) g)) (R (.returned (.slice l m n)) g)
theorem of103 {e R w} (h:SW103 e R w):Calls pg 103 #[.pointer e] w R:=
  calls_by H103 _ Tryz.func103 h
end Go.Proofs.YtkdialecadjedaaGreatDoor
