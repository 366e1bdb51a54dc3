/- A packet as plain content, and how a packet's bytes are read by their definition (no statement of the seat is proved here; conditions: none). -/
import Derived.Test.YtkdialecadjedaaGreatRd1
namespace Go.Proofs.YtkdialecadjedaaGreat
set_option linter.unusedVariables false
set_option linter.unusedSimpArgs false
set_option linter.unusedSectionVars false
open Go

abbrev Rep := Int × Int × Int × Int × Int × Int × Int
def Rep.dat : Rep → List Dat
  | (a, b, c, d, e, f, g) => [.one (.int .u32 a), .one (.int .u8 b), .one (.int .u32 c), .one (.int .u32 d), .one (.int .u32 e), .one (.int .u32 f), .one (.int .u32 g)]
abbrev Itm := Int × ByteArray
def Itm.dat : Itm → List Dat
  | (t, s) => [.one (.int .u8 t), .one (.string s)]
abbrev Chk := Int × List Itm
def Chk.dat : Chk → List Dat
  | (s, l) => [.one (.int .u32 s), .row 2 (l.flatMap Itm.dat)]
abbrev Par := Int × Int
def Par.dat : Par → List Dat
  | (a, b) => [.one (.int .u16 a), .one (.int .u16 b)]
abbrev Sli := Int × Int × Int
def Sli.dat : Sli → List Dat
  | (a, b, c) => [.one (.int .u16 a), .one (.int .u16 b), .one (.int .u8 c)]
abbrev Ent := Int × Int
def Ent.dat : Ent → List Dat
  | (a, b) => [.one (.int .u32 a), .one (.int .u8 b)]
abbrev Met := Bool × Int × Int
def Met.dat : Met → List Dat
  | (a, b, c) => [.one (.bool a), .one (.int .u8 b), .one (.int .u16 c)]
abbrev Blo := Int × Int × List Met
def Blo.dat : Blo → List Dat
  | (a, b, l) => [.one (.int .u32 a), .one (.int .u16 b), .row 3 (l.flatMap Met.dat)]
def oi (k : IntKind) (l : List Int) : List Dat := l.map fun x => .one (.int k x)
abbrev Sta := Bool × Int × Int × Int × List Int
def Sta.dat : Sta → List Dat
  | (v, a, b, c, l) => [.one (.bool v), .one (.int .u16 a), .one (.int .u16 b), .one (.int .u16 c), .row 1 (oi .u16 l)]
abbrev Del := Int × Int
def Del.dat : Del → List Dat
  | (a, b) => [.one (.int .u16 a), .one (.int .i64 b)]
structure Pk where
  kind : Int := 0
  sender : Int := 0
  media : Int := 0
  ntp : Int := 0
  rtp : Int := 0
  packets : Int := 0
  octets : Int := 0
  reports : List Rep := []
  ext : List Int := []
  chunks : List Chk := []
  sources : List Int := []
  text : ByteArray := ⟨#[]⟩
  sub : Int := 0
  data : List Int := []
  pairs : List Par := []
  slices : List Sli := []
  entries : List Ent := []
  bits : Int := 0
  blocks : List Blo := []
  time : Int := 0
  base : Int := 0
  count : Int := 0
  ref : Int := 0
  fb : Int := 0
  statuses : List Sta := []
  deltas : List Del := []
  hp : Bool := false
  hc : Int := 0
  ht : Int := 0
  hl : Int := 0
def Pk.dat (p : Pk) : List Dat :=
  [.one (.int .i64 p.kind), .one (.int .u32 p.sender), .one (.int .u32 p.media), .one (.int .u64 p.ntp), .one (.int .u32 p.rtp), .one (.int .u32 p.packets), .one (.int .u32 p.octets),
   .row 7 (p.reports.flatMap Rep.dat), .row 1 (ob p.ext), .row 2 (p.chunks.flatMap Chk.dat), .row 1 (oi .u32 p.sources), .one (.string p.text), .one (.int .u8 p.sub), .row 1 (ob p.data),
   .row 2 (p.pairs.flatMap Par.dat), .row 3 (p.slices.flatMap Sli.dat), .row 2 (p.entries.flatMap Ent.dat), .one (.int .u32 p.bits), .row 3 (p.blocks.flatMap Blo.dat), .one (.int .u32 p.time),
   .one (.int .u16 p.base), .one (.int .u16 p.count), .one (.int .u32 p.ref), .one (.int .u8 p.fb), .row 5 (p.statuses.flatMap Sta.dat), .row 2 (p.deltas.flatMap Del.dat),
   .one (.bool p.hp), .one (.int .u8 p.hc), .one (.int .u8 p.ht), .one (.int .u16 p.hl)]
/-- The cells of a packet that has a kind, its sources and its header alone. -/
def pk0 (k s m : Int) (hp : Bool) (hc ht hl : Int) : List Value :=
  [.int .i64 k, .int .u32 s, .int .u32 m, .int .u64 0, .int .u32 0, .int .u32 0, .int .u32 0, .slice none 0 0, .slice none 0 0, .slice none 0 0, .slice none 0 0, .string ⟨#[]⟩, .int .u8 0, .slice none 0 0,
   .slice none 0 0, .slice none 0 0, .slice none 0 0, .int .u32 0, .slice none 0 0, .int .u32 0, .int .u16 0, .int .u16 0, .int .u32 0, .int .u8 0, .slice none 0 0, .slice none 0 0, .bool hp, .int .u8 hc, .int .u8 ht, .int .u16 hl]

/-! ### How bytes are read -/
def rep1 (xs : List Int) : Rep := (n32 xs, xs.getD 4 0, n24 (xs.drop 5), n32 (xs.drop 8), n32 (xs.drop 12), n32 (xs.drop 16), n32 (xs.drop 20))
def reps : Nat → List Int → List Rep
  | 0, _ => []
  | n + 1, xs => rep1 xs :: reps n (xs.drop 24)
/-- Items up to one of type 0, and where they end. -/
def items (xs : List Int) : Nat → Nat → Option (List Itm × Nat)
  | 0, _ => none
  | f + 1, i => if xs.length ≤ i then none else if xs.getD i 0 = 0 then some ([], i + 1) else
      if xs.length < i + 2 then none else if (xs.length : Int) < i + 2 + xs.getD (i + 1) 0 then none else
      (items xs f (i + 2 + (xs.getD (i + 1) 0).toNat)).map fun r => ((xs.getD i 0, strOfNums ((xs.drop (i + 2)).take (xs.getD (i + 1) 0).toNat)) :: r.1, r.2)
/-- Noughts up to a whole word. -/
def zeros (xs : List Int) : Nat → Nat → Option Nat
  | 0, i => if i % 4 = 0 then some i else none
  | f + 1, i => if i % 4 = 0 then some i else if xs.length ≤ i then none else if xs.getD i 0 = 0 then zeros xs f (i + 1) else none
def chks : Nat → List Int → Option (List Chk)
  | 0, xs => if xs.length = 0 then some [] else none
  | n + 1, xs => if xs.length < 8 then none else match items xs xs.length 4 with
    | none => none
    | some (l, i) => match zeros xs 3 i with
      | none => none
      | some j => (chks n (xs.drop j)).map fun r => (n32 xs, l) :: r
def words : Nat → List Int → List Int
  | 0, _ => []
  | n + 1, xs => n32 xs :: words n (xs.drop 4)
def rdBye (n : Nat) (xs : List Int) : Option Pk :=
  if xs.length < 4 * n then none else
  let ys := xs.drop (4 * n)
  if ys.length = 0 then some { kind := 4, sources := words n xs } else
  let l := 1 + (ys.getD 0 0).toNat
  if ys.length < l then none else if 3 < ys.length - l then none else if l = 1 then none else
  if (ys.drop l).all (· == 0) then some { kind := 4, sources := words n xs, text := strOfNums ((ys.drop 1).take (l - 1)) } else none
def pairsL : Nat → List Int → List Par
  | 0, _ => []
  | n + 1, xs => (n16 xs, n16 (xs.drop 2)) :: pairsL n (xs.drop 4)
def sliceL : Nat → List Int → List Sli
  | 0, _ => []
  | n + 1, xs => (n32 xs / 524288, n32 xs / 64 % 8192, n32 xs % 64) :: sliceL n (xs.drop 4)
def entryL : Nat → List Int → Option (List Ent)
  | 0, xs => if xs.length = 0 then some [] else none
  | n + 1, xs => if n24 (xs.drop 5) ≠ 0 then none else (entryL n (xs.drop 8)).map fun r => (n32 xs, xs.getD 4 0) :: r
def met1 (v : Int) : Met := (v / 32768 == 1, v / 8192 % 4, v % 8192)
def metsL : Nat → List Int → Option (List Met)
  | 0, _ => some []
  | n + 1, xs => let v := n16 xs; if v / 32768 ≠ 1 ∧ v ≠ 0 then none else (metsL n (xs.drop 2)).map fun r => met1 v :: r
/-- The bits of a number, out of its middle. -/
def bitAt (v : Int) (i m : Nat) : Int := v / 2 ^ i % m
/-- The statuses that a chunk tells. -/
def symL (v : Int) : List Int := if v / 32768 = 0 then List.replicate (v % 8192).toNat (v / 8192 % 4) else
  if v / 16384 % 2 = 0 then [13, 12, 11, 10, 9, 8, 7, 6, 5, 4, 3, 2, 1, 0].map fun i => bitAt v i 2 else [12, 10, 8, 6, 4, 2, 0].map fun i => bitAt v i 4
def sta1 (v : Int) : Sta := if v / 32768 = 0 then (false, v / 8192 % 4, 0, v % 8192, []) else (true, 0, v / 16384 % 2, 0, symL v)
/-- Those that lie within the count are 0, 1 or 2, those behind are 0. -/
def symOk (left : Int) : List Int → Bool
  | [] => true
  | x :: r => (if 0 < left then x != 3 else x == 0) && symOk (left - 1) r
def recv (l : List Int) : List Int := l.filter fun x => x == 1 || x == 2
/-- The chunks, the deltas' types that they ask for, and what stands behind. -/
def tccC : Nat → Int → List Int → Option (List Int × List Int)
  | 0, _, _ => none
  | f + 1, left, xs => if left ≤ 0 then some ([], xs) else if xs.length < 2 then none else
      let v := n16 xs
      if v / 32768 = 0 ∧ (v % 8192 = 0 ∨ left < v % 8192) then none else if symOk left (symL v) then (tccC f (left - (symL v).length) (xs.drop 2)).map fun r => (v :: r.1, r.2) else none
def del1 (x : Int) (xs : List Int) : Del := (x, if x = 2 then IntKind.i16.wrap (n16 xs) * 250 else xs.getD 0 0 * 250)
def tccD : List Int → List Int → Option (List Del × List Int)
  | [], xs => some ([], xs)
  | x :: r, xs => if (xs.length : Int) < x then none else (tccD r (xs.drop x.toNat)).map fun q => (del1 x xs :: q.1, q.2)
def rdT (s m : Int) (hp : Bool) (hc ht hl : Int) (xs : List Int) : Option Pk :=
  if xs.length < 8 then none else if n16 (xs.drop 2) = 0 then none else
  match tccC xs.length (n16 (xs.drop 2)) (xs.drop 8) with
  | none => none
  | some (vs, ys) => if (recv (vs.flatMap symL)).length = 0 then none else match tccD (recv (vs.flatMap symL)) ys with
    | none => none
    | some (ds, zs) => if zs.all (· == 0) ∧ zs.length ≤ 3 then
        some { kind := 13, sender := s, media := m, base := n16 xs, count := n16 (xs.drop 2), ref := n24 (xs.drop 4), fb := xs.getD 7 0, statuses := vs.map sta1, deltas := ds, hp := hp, hc := hc, ht := ht, hl := hl } else none
end Go.Proofs.YtkdialecadjedaaGreat
