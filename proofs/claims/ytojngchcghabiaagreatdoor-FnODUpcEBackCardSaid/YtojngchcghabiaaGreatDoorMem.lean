/-
  What the walks say of memory: a block that is known whole; what a call may have changed. No program.
-/
import Derived.WalkKit
import Derived.Deep.Draws
import Derived.Lib.Hide
namespace Go.Proofs.YtojngchcghabiaaGreatDoor
open Go Go.RowKit

/-- Block g is just these cells, none of them frozen. -/
def Whole (w : World) (g : Nat) (t : TypeId) (cs : List Value) : Prop := w.heap[g]? = some (.cells cs.toArray t (0, 0))

/-- What a call leaves of what was there: all of it, but for one block where one is named. -/
abbrev Left' (row : Option Nat) (w w' : World) : Prop := w.grownBy w' row

section
variable {w w' w'' : World} {g : Nat} {t : TypeId} {cs : List Value} {row : Option Nat}

theorem Whole.lt (h : Whole w g t cs) : g < w.heap.size := lt_of_block h
theorem Whole.cell (h : Whole w g t cs) (i : Nat) : w.cell? ⟨g, i, none⟩ = cs[i]? := by
  rw [cell_of_row w g i cs.toArray t (0, 0) h]; simp
theorem Whole.frozen (h : Whole w g t cs) (i : Nat) : w.frozen? ⟨g, i, none⟩ = false := frozen_of_row w g i cs.toArray t h
theorem Whole.drew (h : Whole w g t cs) : Whole w.drew g t cs := h
theorem Whole.drewN (h : Whole w g t cs) (n : Nat) : Whole (w.drewN n) g t cs := h
theorem Whole.alloc (h : Whole w g t cs) (o : Obj) : Whole (w.alloc o) g t cs := (Below.heap_alloc w o g h.lt).trans h
theorem Whole.new (w : World) (t : TypeId) (cs : List Value) : Whole (w.alloc (.cells cs.toArray t)) w.heap.size t cs := heap_alloc_new w _
theorem Whole.set (h : Whole w g t cs) (i : Nat) (u : Value) : Whole (w.setCell ⟨g, i, none⟩ u) g t (cs.set i u) := by
  unfold Whole at h ⊢
  simp [World.setCell, Array.getElem?_modify, h]
theorem Whole.far (h : Whole w g t cs) {p : Addr} (hp : g ≠ p.block) (u : Value) : Whole (w.setCell p u) g t cs := (heap_setCell_other w p g u hp).trans h
theorem Whole.left (h : Whole w g t cs) (hf : Left' row w w') (hr : row ≠ some g) : Whole w' g t cs := (hf.block g h.lt (fun e => hr e.symm)).trans h
theorem Whole.below {B : Nat} (h : Whole w g t cs) (hb : Below B w w') (hg : g < B) : Whole w' g t cs := (hb.block g hg).trans h
theorem Whole.ne {g' : Nat} {t' : TypeId} {cs' : List Value} (h : Whole w g t cs) (h' : Whole w g' t' cs') (hne : t ≠ t') : g ≠ g' := by
  rintro rfl
  unfold Whole at h h'
  rw [h] at h'
  injection h' with h'
  injection h' with _ ht
  exact hne ht

theorem Left'.refl (w : World) (row : Option Nat) : Left' row w w := World.grownBy.refl w row
theorem Left'.of_none (h : Left' none w w') : Left' row w w' := ⟨h.os, h.tape, h.output, h.size, fun k hk _ => h.block k hk (by simp)⟩
theorem Left'.trans (h : Left' row w w') (k : Left' row w' w'') : Left' row w w'' :=
  ⟨k.os.trans h.os, k.tape.trans h.tape, k.output.trans h.output, Nat.le_trans h.size k.size, fun i hi hn => (k.block i (Nat.lt_of_lt_of_le hi h.size) hn).trans (h.block i hi hn)⟩
theorem Left'.drew (h : Left' row w w') : Left' row w w'.drew := ⟨h.os, h.tape, h.output, h.size, h.block⟩
theorem Left'.drewN (h : Left' row w w') (n : Nat) : Left' row w (w'.drewN n) := ⟨h.os, h.tape, h.output, h.size, h.block⟩
theorem Left'.alloc (h : Left' row w w') (o : Obj) : Left' row w (w'.alloc o) :=
  ⟨h.os, h.tape, h.output, Nat.le_trans h.size (by simp), fun i hi hn => (Below.heap_alloc w' o i (Nat.lt_of_lt_of_le hi h.size)).trans (h.block i hi hn)⟩
/-- A store into the named block, or into one that the call has made. -/
theorem Left'.setCell (h : Left' row w w') {p : Addr} (hp : row = some p.block ∨ w.heap.size ≤ p.block) (u : Value) : Left' row w (w'.setCell p u) :=
  ⟨h.os, h.tape, h.output, by simpa [World.setCell] using h.size, fun i hi hn => (Below.heap_setCell w' p u i (by
    rintro rfl
    rcases hp with hp | hp
    · exact hn hp.symm
    · omega)).trans (h.block i hi hn)⟩
/-- A step that may have changed one block that the call itself has made. -/
theorem Left'.own (h : Left' row w w') {row' : Option Nat} (k : Left' row' w' w'') (hr : ∀ g, row' = some g → row = some g ∨ w.heap.size ≤ g) : Left' row w w'' :=
  ⟨k.os.trans h.os, k.tape.trans h.tape, k.output.trans h.output, Nat.le_trans h.size k.size, fun i hi hn => (k.block i (Nat.lt_of_lt_of_le hi h.size) (fun e => by
    rcases hr i e.symm with h1 | h1
    · exact hn h1.symm
    · omega)).trans (h.block i hi hn)⟩
theorem Left'.below (h : Left' none w w') : Below w.heap.size w w' := ⟨h.os, h.tape, h.output, h.size, fun k hk => h.block k hk (by simp)⟩
theorem Left'.of_below (h : Below w.heap.size w w') : Left' none w w' := ⟨h.os, h.tape, h.output, h.size, fun k hk _ => h.block k hk⟩
theorem Left'.cell (h : Left' row w w') {p : Addr} (hp : p.block < w.heap.size) (hr : row ≠ some p.block) : w'.cell? p = w.cell? p := World.cell?_of_block (h.block p.block hp (fun e => hr e.symm))
theorem Left'.frozen (h : Left' row w w') {p : Addr} (hp : p.block < w.heap.size) (hr : row ≠ some p.block) : w'.frozen? p = w.frozen? p := World.frozen?_of_block (h.block p.block hp (fun e => hr e.symm))
end

/-- A store back of what a list's map holds. -/
theorem map_set_int (cs : List Nat) (i n : Nat) : (cs.map fun (c : Nat) => Value.int .i64 (c : Int)).set i (.int .i64 (n : Int)) = (cs.set i n).map fun (c : Nat) => Value.int .i64 (c : Int) := by
  rw [List.map_set]

/-- A new array of one value again and again. -/
def reps (n : Nat) (z : Value) : Array Value := (List.replicate n z).toArray

theorem madeCells_one (z : Value) (h : z.cells = #[z]) (n : Nat) : madeCells z.cells n = reps n z := by
  rw [h]
  apply Array.ext
  · simp [madeCells, reps]
  · intro i h1 h2
    simp [madeCells, reps]
    rw [Nat.mod_one]; rfl

/-- make([]T, n): elements of one cell. -/
theorem run_make_one {P : Program} (t e : TypeId) (z : Value) (by_ : Nat) (ht : P.underlying t = some (.slice e)) (hi : (P.info? e).map (fun i => (i.zero, i.size, i.bytes)) = some (some z, 1, by_)) (h1 : z.cells = #[z])
    (kl kc : IntKind) (L C : Int) (n : Nat) (hL : L = (n : Int)) (hC : C = (n : Int)) (hb : by_ * n ≤ 281474976710656) (h63 : n ≤ 9223372036854775807) (w : World) :
    (Instr.makeSlice t (.int kl L) (.int kc C)).run P w = .ok (.slice (some ⟨w.heap.size, 0, none⟩) n n) (w.alloc (.cells (reps n z) e)) := by
  obtain ⟨i, hi0, hz0, hz1, hz2⟩ := info_parts hi
  subst hL hC
  have h : (i.bytes : Int) * (n : Int) ≤ 281474976710656 := by
    have h : ((i.bytes * n : Nat) : Int) ≤ 281474976710656 := by rw [hz2]; omega
    rwa [Int.natCast_mul] at h
  have hr := run_make (P := P) w t e i z ht hi0 hz0 kl kc n n (by omega) (by omega) h (by omega)
  simp only [Int.toNat_natCast, hz1, Nat.mul_one] at hr
  rw [madeCells_one z h1] at hr
  exact hr

theorem Whole.reps (w : World) (t : TypeId) (n : Nat) (z : Value) : Whole (w.alloc (.cells (reps n z) t)) w.heap.size t (List.replicate n z) := heap_alloc_new w _

end Go.Proofs.YtojngchcghabiaaGreatDoor
