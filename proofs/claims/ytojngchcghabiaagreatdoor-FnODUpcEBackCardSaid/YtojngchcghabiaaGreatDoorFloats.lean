/-
  Plain facts about the measure of a pattern in floating point: what the loops of the measure and of the choice of a digit come to, and that at whole widths the right digit is chosen. No program.
-/
import GoSem.Op.Unary
import GoSem.Core.Float
import Derived.Laws.FloatArith
namespace Go.Proofs.YtojngchcghabiaaGreatDoor
open Go

abbrev fOrd (x y : Nat) : Option Ordering := FloatKind.f64.format.order x y
abbrev fInt (n : Int) : Nat := floatOfInt .f64 n

/-- The loop of the measure: none: an operation has no answer; some none: a width differs by too much. -/
def pmvL (u m : Nat) : List (Int × Int) → Nat → Option (Option Nat)
  | [], acc => some (some acc)
  | (c, p) :: r, acc =>
    match FloatKind.f64.format.mul (fInt p) u with
    | none => none
    | some sp =>
      match FloatKind.f64.format.sub (fInt c) sp with
      | none => none
      | some d =>
        let v := if fOrd d 0 == some .lt then Op.negFloat .f64 d else d
        if fOrd v m == some .gt then some none else
        match FloatKind.f64.format.add acc v with
        | none => none
        | some acc' => pmvL u m r acc'

def infBits : Nat := 9218868437227405312
/-- The measure's two bounds: 0.7 and 0.48. -/
def maxInd : Nat := 4604480259023595110
def maxAvg : Nat := 4602318531202457272

def pmv (cs ps : List Int) : Option Nat :=
  match FloatKind.f64.format.div (fInt cs.sum) (fInt ps.sum) with
  | none => none
  | some u =>
    match FloatKind.f64.format.mul maxInd u with
    | none => none
    | some m =>
      match pmvL u m (cs.zip ps) 0 with
      | none => none
      | some none => some infBits
      | some (some t) => FloatKind.f64.format.div t (fInt cs.sum)

/-- The choice of a digit: the least measure, and the first of it. -/
def best (cs : List Int) : List (List Int) → Int → Nat → Int → Option Int
  | [], _, _, bm => some bm
  | p :: ps, i, bv, bm =>
    match pmv cs p with
    | none => none
    | some v => if fOrd v bv == some .lt then best cs ps (i + 1) v i else best cs ps (i + 1) bv bm

def lPats : List (List Int) := [[3, 2, 1, 1], [2, 2, 2, 1], [2, 1, 2, 2], [1, 4, 1, 1], [1, 1, 3, 2], [1, 2, 3, 1], [1, 1, 1, 4], [1, 3, 1, 2], [1, 2, 1, 3], [3, 1, 1, 2]]
def lgPats : List (List Int) := lPats ++ lPats.map List.reverse

def allL : Bool := [1, 2, 3, 4].all fun (b : Int) => (List.range 10).all fun d => best ((lPats.getD d []).map (b * ·)) lPats 0 maxAvg (-1) == some (d : Int)
def allLG : Bool := [1, 2, 3, 4].all fun (b : Int) => (List.range 20).all fun d => best ((lgPats.getD d []).map (b * ·)) lgPats 0 maxAvg (-1) == some (d : Int)



/-- The guards' patterns: runs of one width. -/
def allOnes : Bool := [1, 2, 3, 4].all fun (b : Int) => [3, 5, 6].all fun n => match pmv (List.replicate n b) (List.replicate n 1) with
  | some v => fOrd v maxAvg == some .lt
  | none => false
theorem allOnes_true : allOnes = true := by decide +kernel
theorem allL_true : allL = true := by decide +kernel
theorem allLG_true : allLG = true := by decide +kernel
end Go.Proofs.YtojngchcghabiaaGreatDoor
