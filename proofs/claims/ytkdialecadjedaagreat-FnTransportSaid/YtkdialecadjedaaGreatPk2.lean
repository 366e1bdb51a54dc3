/- How a packet's bytes are read by their definition: the kinds together (no statement of the seat is proved here; conditions: none). -/
import Derived.Test.YtkdialecadjedaaGreatRd2
import Derived.Test.YtkdialecadjedaaGreatFlo
namespace Go.Proofs.YtkdialecadjedaaGreat
set_option linter.unusedVariables false
set_option linter.unusedSimpArgs false
set_option linter.unusedSectionVars false
open Go

/-- The blocks of congestion control feedback, down to the time. -/
def blocksL : Nat → List Int → Option (List Blo × List Int)
  | 0, _ => none
  | f + 1, xs => if xs.length ≤ 4 then some ([], xs) else if xs.length < 12 then none else
      let n := (n16 (xs.drop 6)).toNat
      if xs.length - 8 < 2 * (n + n % 2) + 4 then none else match metsL n (xs.drop 8) with
      | none => none
      | some l => if n % 2 = 1 ∧ n16 (xs.drop (8 + 2 * n)) ≠ 0 then none else (blocksL f (xs.drop (8 + 2 * (n + n % 2)))).map fun r => ((n32 xs, n16 (xs.drop 4), l) :: r.1, r.2)
def rdCc (s : Int) (xs : List Int) : Option Pk := match blocksL xs.length xs with
  | some (l, ys) => if ys.length = 4 ∧ l ≠ [] then some { kind := 8, sender := s, blocks := l, time := n32 ys } else none
  | none => none
/-- REMB. -/
def rdRemb (s m : Int) (b : List Int) : Option Pk :=
  if b.length < 8 then none else if m ≠ 0 then none else if b.take 4 ≠ [82, 69, 77, 66] then none else if b.length ≠ 8 + 4 * (b.getD 4 0).toNat then none else
  if n24 (b.drop 5) % 262144 = 0 then none else
  some { kind := 12, sender := s, bits := sgl (n24 (b.drop 5) % 262144).toNat (n24 (b.drop 5) / 262144).toNat, sources := words (b.getD 4 0).toNat (b.drop 8) }
/-- A feedback message, behind its header. -/
def rdFb (k : Int) (hp : Bool) (hc ht hl : Int) (body : List Int) : Option Pk :=
  let s := n32 body
  let m := n32 (body.drop 4)
  let b := body.drop 8
  if k = 7 ∨ k = 9 then (if b.length = 0 then some { kind := k, sender := s, media := m } else none) else
  if k = 6 then (if b.length / 4 = 0 then none else some { kind := 6, sender := s, media := m, pairs := pairsL (b.length / 4) b }) else
  if k = 10 then (if b.length / 4 = 0 then none else some { kind := 10, sender := s, media := m, slices := sliceL (b.length / 4) b }) else
  if k = 11 then (match entryL (b.length / 8) b with
    | some l => if l = [] then none else some { kind := 11, sender := s, media := m, entries := l }
    | none => none) else
  if k = 12 then rdRemb s m b else if k = 8 then rdCc s (body.drop 4) else rdT s m hp hc ht hl b
def rdBody (xs : List Int) : Option Pk :=
  let k := kindOf (hT xs) (hC xs)
  let n := (hC xs).toNat
  let body := xs.drop 4
  if k = 1 then (if body.length < 24 + 24 * n then none else some { kind := 1, sender := n32 body, ntp := n64 (body.drop 4), rtp := n32 (body.drop 12), packets := n32 (body.drop 16), octets := n32 (body.drop 20), reports := reps n (body.drop 24), ext := (body.drop 24).drop (24 * n) }) else
  if k = 2 then (if body.length < 4 + 24 * n then none else some { kind := 2, sender := n32 body, reports := reps n (body.drop 4), ext := (body.drop 4).drop (24 * n) }) else
  if k = 3 then (chks n body).map (fun l => { kind := 3, chunks := l }) else
  if k = 4 then rdBye n body else
  if k = 5 then (if body.length < 8 then none else some { kind := 5, sender := n32 body, text := strOfNums ((body.drop 4).take 4), sub := hC xs, data := body.drop 8 }) else
  if body.length < 8 then none else rdFb k (hP xs) (hC xs) (hT xs) (hL xs) body
def oneOf (q : Option Pk) : Int × Pk := match q with
  | some p => (0, p)
  | none => (2, {})
/-- What spec.ReadOne answers: the verdict, and the packet. -/
def rdOne (xs : List Int) : Int × Pk :=
  if hdrOk xs = false then (1, {}) else if 4 * (hL xs + 1) ≠ xs.length then (1, {}) else
  if kindOf (hT xs) (hC xs) = 0 then (if hT xs = 207 then (2, {}) else (0, { data := xs })) else
  if hP xs then (2, {}) else oneOf (rdBody xs)
end Go.Proofs.YtkdialecadjedaaGreat
