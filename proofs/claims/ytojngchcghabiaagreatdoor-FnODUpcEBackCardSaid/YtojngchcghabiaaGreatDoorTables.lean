/-
  The walks over the tables of patterns: each call makes its rows anew.
-/
import Derived.Test.YtojngchcghabiaaGreatDoorMeasure
namespace Go.Proofs.YtojngchcghabiaaGreatDoor
open Go Go.RowKit

/-- Whole numbers as cells. -/
def ints (zs : List Int) : List Value := zs.map fun z => .int .i64 z

/-- A call that makes a row of whole numbers. -/
def MakesRow (zs : List Int) (w : World) (e : Ending) (w' : World) : Prop :=
  ∃ g, e = .returned (.slice (some ⟨g, 0, none⟩) zs.length zs.length) ∧ Whole w' g 3 (ints zs) ∧ w.heap.size ≤ g ∧ Left' none w w'

theorem startEnd_any (w : World) : Calls Tryz.prog 51 #[] w (MakesRow [1, 1, 1] w) := by
  go_enter Tryz.func51, Tryz.ntmps51
  go_wp2
  go_ret
  exact ⟨w.heap.size, rfl, Whole.new _ _ _, Nat.le_refl _, (Left'.refl _ _).alloc _⟩
theorem middle_any (w : World) : Calls Tryz.prog 53 #[] w (MakesRow [1, 1, 1, 1, 1] w) := by
  go_enter Tryz.func53, Tryz.ntmps53
  go_wp2
  go_ret
  exact ⟨w.heap.size, rfl, Whole.new _ _ _, Nat.le_refl _, (Left'.refl _ _).alloc _⟩
theorem endPat_any (w : World) : Calls Tryz.prog 77 #[] w (MakesRow [1, 1, 1, 1, 1, 1] w) := by
  go_enter Tryz.func77, Tryz.ntmps77
  go_wp2
  go_ret
  exact ⟨w.heap.size, rfl, Whole.new _ _ _, Nat.le_refl _, (Left'.refl _ _).alloc _⟩
theorem middleEnd_any (w : World) : Calls Tryz.prog 165 #[] w (MakesRow [1, 1, 1, 1, 1, 1] w) := by
  go_enter Tryz.func165, Tryz.ntmps165
  go_wp2
  go_ret
  exact ⟨w.heap.size, rfl, Whole.new _ _ _, Nat.le_refl _, (Left'.refl _ _).alloc _⟩
theorem extStart_any (w : World) : Calls Tryz.prog 90 #[] w (MakesRow [1, 1, 2] w) := by
  go_enter Tryz.func90, Tryz.ntmps90
  go_wp2
  go_ret
  exact ⟨w.heap.size, rfl, Whole.new _ _ _, Nat.le_refl _, (Left'.refl _ _).alloc _⟩
def firstEnc : List Int := [0, 11, 13, 14, 19, 25, 28, 21, 22, 26]
theorem firstEnc_any (w : World) : Calls Tryz.prog 78 #[] w (MakesRow firstEnc w) := by
  go_enter Tryz.func78, Tryz.ntmps78
  go_wp2
  go_ret
  exact ⟨w.heap.size, rfl, Whole.new _ _ _, Nat.le_refl _, (Left'.refl _ _).alloc _⟩

/-- A table of rows of whole numbers, its rows in blocks from base on. -/
def Mat (w : World) (base g m : Nat) (pats : List (List Int)) : Prop :=
  ∃ at_ : Nat → Nat, Whole w g 54 ((List.range pats.length).map fun i => .slice (some ⟨at_ i, 0, none⟩) m m) ∧ base ≤ g ∧ ∀ i, i < pats.length → Whole w (at_ i) 3 (ints (pats.getD i [])) ∧ base ≤ at_ i

def MakesMat (m : Nat) (pats : List (List Int)) (w : World) (e : Ending) (w' : World) : Prop :=
  ∃ g, e = .returned (.slice (some ⟨g, 0, none⟩) pats.length pats.length) ∧ Mat w' w.heap.size g m pats ∧ Left' none w w'


/-- The world behind rows of whole numbers, made one behind the other. -/
def rowsWorld (w : World) : List (List Int) → World
  | [] => w
  | r :: rs => rowsWorld (w.alloc (.cells (ints r).toArray 3)) rs

theorem rowsWorld_size (pats : List (List Int)) (w : World) : (rowsWorld w pats).heap.size = w.heap.size + pats.length := by
  induction pats generalizing w with
  | nil => rfl
  | cons r rs ih => simp only [rowsWorld, ih, List.length_cons, World.size_alloc]; omega
theorem rowsWorld_left (pats : List (List Int)) (w : World) : Left' none w (rowsWorld w pats) := by
  induction pats generalizing w with
  | nil => exact Left'.refl w none
  | cons r rs ih => exact ((Left'.refl w none).alloc _).trans (ih _)
theorem rowsWorld_at (pats : List (List Int)) (w : World) (i : Nat) (hi : i < pats.length) : Whole (rowsWorld w pats) (w.heap.size + i) 3 (ints (pats.getD i [])) := by
  induction pats generalizing w i with
  | nil => simp at hi
  | cons r rs ih =>
    cases i with
    | zero => exact (Whole.new w 3 (ints r)).left (rowsWorld_left rs _) (by simp)
    | succ i =>
      have := ih (w.alloc (.cells (ints r).toArray 3)) i (by simpa using hi)
      rw [World.size_alloc, show w.heap.size + 1 + i = w.heap.size + (i + 1) by omega] at this
      simpa [rowsWorld] using this

theorem mat_of (w : World) (pats : List (List Int)) (m : Nat) :
    MakesMat m pats w (.returned (.slice (some ⟨w.heap.size + pats.length, 0, none⟩) pats.length pats.length)) ((rowsWorld w pats).alloc (.cells (((List.range pats.length).map fun i => Value.slice (some ⟨w.heap.size + i, 0, none⟩) m m)).toArray 54)) := by
  refine ⟨_, rfl, ⟨fun i => w.heap.size + i, ?_, by omega, fun i hi => ⟨(rowsWorld_at pats w i hi).alloc _, Nat.le_add_right _ _⟩⟩, (rowsWorld_left pats w).alloc _⟩
  have := Whole.new (rowsWorld w pats) 54 ((List.range pats.length).map fun i => Value.slice (some ⟨w.heap.size + i, 0, none⟩) m m)
  rw [rowsWorld_size] at this
  exact this

set_option maxHeartbeats 1000000 in
theorem lPats_any (w : World) : Calls Tryz.prog 52 #[] w (MakesMat 4 lPats w) := by
  go_enter Tryz.func52, Tryz.ntmps52
  go_wp2
  go_ret
  exact mat_of w lPats 4

def numSys : List (List Int) := [[56, 52, 50, 49, 44, 38, 35, 42, 41, 37], [7, 11, 13, 14, 19, 25, 28, 21, 22, 26]]
theorem numSys_any (w : World) : Calls Tryz.prog 75 #[] w (MakesMat 10 numSys w) := by
  go_enter Tryz.func75, Tryz.ntmps75
  go_wp2
  go_ret
  exact mat_of w numSys 10
end Go.Proofs.YtojngchcghabiaaGreatDoor
