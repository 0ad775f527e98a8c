/-
  A row of bytes as a text; halves in floating point.
-/
import Derived.Test.YtojngchcghabiaaGreatDoorArray
namespace Go.Proofs.YtojngchcghabiaaGreatDoor
open Go Go.RowKit

theorem Tryz.underlying9 : Tryz.prog.underlying 9 = some .string := by kernel_rfl
theorem Tryz.underlying5 : Tryz.prog.underlying 5 = some (.int .u8) := by kernel_rfl

/-- The text of digits. -/
def textOf (ds : Nat → Nat) (n : Nat) : ByteArray := ⟨((List.range n).map fun i => UInt8.ofNat (48 + ds i)).toArray⟩
theorem textOf_says (ds : Nat → Nat) (n : Nat) (h : ∀ i, ds i < 10) : Says (textOf ds n) n ds := by
  refine ⟨by simp [textOf, ByteArray.size], fun i hi => ?_, h⟩
  have hd := h i
  have e : (textOf ds n)[i] = UInt8.ofNat (48 + ds i) := by
    show ((List.range n).map fun i => UInt8.ofNat (48 + ds i)).toArray[i] = _
    simp
  rw [e, UInt8.toNat_ofNat']
  omega

theorem own_cells {w : World} {base g n c : Nat} {xs : List Value} (h : w.ownsRow base 5 1 (.slice (some ⟨g, 0, none⟩) n c) n xs) (i : Nat) (hi : i < n) : w.cell? ⟨g, i, none⟩ = xs[i]? := by
  obtain ⟨h1, h2⟩ := h
  rcases h2 with ⟨e1, _⟩ | ⟨g', cap, cur, hv, hg, hh, hnc, hcm, hcs, hx⟩
  · cases e1
  · injection hv with hv1 hv2 hv3
    injection hv1 with hv1
    injection hv1 with hv1
    subst hv1
    rw [cell_of_row w _ i cur 5 (0, 0) hh, ← hx, List.getElem?_take, if_pos (by omega)]
    simp

theorem run_text (gb n c : Nat) (ds : Nat → Nat) (w : World) (h : w.ownsRow 0 5 1 (.slice (some ⟨gb, 0, none⟩) n c) n (bts ds n)) :
    (convert 66 9 (.slice (some ⟨gb, 0, none⟩) n c)).run Tryz.prog w = .ok (.string (textOf ds n)) w := by
  rw [run_convert_bytes_string w 66 9 5 _ _ _ Tryz.underlying66 Tryz.underlying5 Tryz.underlying9]
  have hl := run_loadCells_list (P := Tryz.prog) w ⟨gb, 0, none⟩ (bts ds n) (fun j v hj => by
    have hjn : j < n := by
      rcases Nat.lt_or_ge j n with h1 | h1
      · exact h1
      · rw [List.getElem?_eq_none (by rw [bts_length]; exact h1)] at hj; cases hj
    have e := own_cells h j hjn
    rw [Addr.add]
    split
    · rename_i h0; subst h0; rw [e]; exact hj
    · rw [show 0 + j = j by omega, e]; exact hj)
  rw [bts_length] at hl
  have e1 : bts ds n = ((List.range n).map fun i => ((48 + ds i : Nat) : Int)).map (Value.int .u8) := by simp [bts, Function.comp_def]
  rw [e1] at hl
  rw [run_bytesToString w ⟨gb, 0, none⟩ n c _ hl, foldl_push_bytes]
  congr 2
  unfold textOf
  rw [List.map_map]
  have e2 : (List.range n).map ((fun (z : Int) => UInt8.ofNat z.toNat) ∘ fun i => ((48 + ds i : Nat) : Int)) = (List.range n).map fun i => UInt8.ofNat (48 + ds i) :=
    List.map_congr_left fun i _ => by simp only [Function.comp, Int.toNat_natCast]
  rw [e2]
  congr 1
  show #[] ++ _ = _
  simp

theorem own_empty {w : World} {gb : Nat} (ds : Nat → Nat) (h : Whole w gb 5 (List.replicate 13 (.int .u8 0))) : w.ownsRow 0 5 1 (.slice (some ⟨gb, 0, none⟩) 0 13) 0 (bts ds 0) :=
  have hh : w.heap[gb]? = some (.cells (List.replicate 13 (Value.int .u8 0)).toArray 5 (0, 0)) := h
  ⟨rfl, .inr ⟨gb, 13, (List.replicate 13 (.int .u8 0)).toArray, rfl, Nat.zero_le _, hh, by omega, by unfold maxLen; omega, by simp, by simp [bts]⟩⟩

def allHalves : Bool := (List.range 4000).all fun n => (FloatKind.f64.format.div (fInt (n : Int)) 4611686018427387904).isSome
theorem allHalves_true : allHalves = true := by decide +kernel
/-- Half of a place, in floating point. -/
theorem half_some (n : Nat) (h : n < 4000) : ∃ r, FloatKind.f64.format.div (fInt (n : Int)) 4611686018427387904 = some r := by
  have h1 := allHalves_true
  unfold allHalves at h1
  rw [List.all_eq_true] at h1
  exact Option.isSome_iff_exists.1 (h1 n (by simpa using h))
end Go.Proofs.YtojngchcghabiaaGreatDoor
