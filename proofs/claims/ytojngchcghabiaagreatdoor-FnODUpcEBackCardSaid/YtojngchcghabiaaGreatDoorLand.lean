/- The country of an EAN-13 text (functions 93, 103, 94, 73): some text, and no panic. -/
import Derived.Test.YtojngchcghabiaaGreatDoorSpecEight
import Derived.Lib.ConvBytes
namespace Go.Proofs.YtojngchcghabiaaGreatDoor
open Go Go.RowKit

theorem Tryz.underlying66' : Tryz.prog.underlying 66 = some (.slice 5) := by kernel_rfl

theorem left_bytes (w : World) (e : TypeId) (s : ByteArray) : Left' none w (Lib.bytesWorld w e s) :=
  ⟨rfl, rfl, rfl, by rw [Lib.bytesWorld_size]; omega, fun k hk _ => Lib.bytesWorld_at_old w e s k hk⟩

set_option maxRecDepth 100000 in
set_option maxHeartbeats 2000000 in
/-- internal/strconv.Atoi of three digits. -/
theorem atoiIn_any (s : ByteArray) (ds : Nat → Nat) (w : World) (h : Says s 3 ds) :
    Calls Tryz.prog 103 #[.string s] w fun e w' => ∃ n : Nat, n < 1000 ∧ e = .returned (.tuple #[.int .i64 n, .nilIface]) ∧ Left' none w w' := by
  have hsz := h.size
  have hsi : (s.size : Int) = 3 := by omega
  have hb0 := h.byte 0 (by omega)
  have hd0 := h.dig 0
  have hb1 : 48 ≤ s[0].toNat := by omega
  have h45 : ((s[0].toNat : Int) == 45) = false := by simp; omega
  have h43 : ((s[0].toNat : Int) == 43) = false := by simp; omega
  have H := Lib.hid h
  clear h hb0 hd0 hb1
  have hcv := Lib.run_convert_string_bytes (P := Tryz.prog) w 9 66 5 s (u := .string) Tryz.underlying9 Tryz.underlying66' Tryz.underlying5
  have hB : ∀ j, j < s.size → (Lib.bytesWorld w 5 s).cell? ⟨w.heap.size, j, none⟩ = some (.int .u8 (s.data.toList.getD j 0).toNat) := fun j hj => Lib.bytesWorld_cell w 5 s j hj
  have hL := left_bytes w 5 s
  generalize Lib.bytesWorld w 5 s = W1 at hcv hB hL
  have HB := Lib.hid hB
  have HL := Lib.hid hL
  clear hB hL
  go_enter Tryz.func103, Tryz.ntmps103
  go_wp2
  go_loop [6, 49] (fun vn vi => ∃ (k acc : Nat), k ≤ 3 ∧ vi = .int .i64 k ∧ vn = .int .i64 acc ∧ acc + 1 ≤ 10 ^ k) (fun _ vi => 3 - (intOf vi).toNat)
  case atStart => exact ⟨0, 0, by omega, rfl, rfl, by decide⟩
  case round =>
    obtain ⟨k, acc, hk, rfl, rfl, hacc⟩ := hrel
    have hacc2 : acc < 1000 := by
      have : k = 0 ∨ k = 1 ∨ k = 2 ∨ k = 3 := by omega
      rcases this with rfl | rfl | rfl | rfl <;> omega
    by_cases hk3 : k < 3
    · have hks : k < s.size := by omega
      have hcell := HB.out k hks
      have hb := H.out.byte k hks
      have hd := H.out.dig k
      have hx : (s.data.toList.getD k 0).toNat = 48 + ds k := by
        rw [← hb, List.getD_eq_getElem?_getD, List.getElem?_eq_getElem (by rw [Array.length_toList]; exact hks)]
        rfl
      rw [hx] at hcell
      clear hb hx
      have HAC := Lib.hid (show acc * 10 + ds k + 1 ≤ 10 ^ (k + 1) by rw [Nat.pow_succ]; omega)
      generalize ds k = d at *
      clear hacc
      go_wp2
      go_round
      case rel => exact ⟨k + 1, acc * 10 + d, by omega, by go_num, by go_num, HAC.out⟩
      case measure => simp [intOf]; omega
    · have hk' : k = 3 := by omega
      subst hk'
      clear hacc
      go_wp2
      go_ret2
      exact ⟨acc, hacc2, rfl, HL.out⟩

set_option maxHeartbeats 1000000 in
/-- strconv.Atoi of three digits. -/
theorem atoi_any (s : ByteArray) (ds : Nat → Nat) (w : World) (h : Says s 3 ds) :
    Calls Tryz.prog 93 #[.string s] w fun e w' => ∃ n : Nat, n < 1000 ∧ e = .returned (.tuple #[.int .i64 n, .nilIface]) ∧ Left' none w w' := by
  have H := Lib.hid h
  clear h
  go_enter Tryz.func93, Tryz.ntmps93
  go_wp2_with fail
  refine (atoiIn_any s ds w H.out).mono ?_
  rintro e w1 ⟨n, hn, rfl, hL⟩
  have HL := Lib.hid hL
  clear hL
  go_wp2
  go_ret2
  exact ⟨n, hn, rfl, HL.out⟩

/-- The lands: from, to, name. -/
def lands : List (Nat × Nat × ByteArray) := [
  (0, 19, ⟨#[85, 83, 47, 67, 65]⟩),
  (30, 39, ⟨#[85, 83]⟩),
  (60, 139, ⟨#[85, 83, 47, 67, 65]⟩),
  (300, 379, ⟨#[70, 82]⟩),
  (380, 380, ⟨#[66, 71]⟩),
  (383, 383, ⟨#[83, 73]⟩),
  (385, 385, ⟨#[72, 82]⟩),
  (387, 387, ⟨#[66, 65]⟩),
  (400, 440, ⟨#[68, 69]⟩),
  (450, 459, ⟨#[74, 80]⟩),
  (460, 469, ⟨#[82, 85]⟩),
  (471, 471, ⟨#[84, 87]⟩),
  (474, 474, ⟨#[69, 69]⟩),
  (475, 475, ⟨#[76, 86]⟩),
  (476, 476, ⟨#[65, 90]⟩),
  (477, 477, ⟨#[76, 84]⟩),
  (478, 478, ⟨#[85, 90]⟩),
  (479, 479, ⟨#[76, 75]⟩),
  (480, 480, ⟨#[80, 72]⟩),
  (481, 481, ⟨#[66, 89]⟩),
  (482, 482, ⟨#[85, 65]⟩),
  (484, 484, ⟨#[77, 68]⟩),
  (485, 485, ⟨#[65, 77]⟩),
  (486, 486, ⟨#[71, 69]⟩),
  (487, 487, ⟨#[75, 90]⟩),
  (489, 489, ⟨#[72, 75]⟩),
  (490, 499, ⟨#[74, 80]⟩),
  (500, 509, ⟨#[71, 66]⟩),
  (520, 520, ⟨#[71, 82]⟩),
  (528, 528, ⟨#[76, 66]⟩),
  (529, 529, ⟨#[67, 89]⟩),
  (531, 531, ⟨#[77, 75]⟩),
  (535, 535, ⟨#[77, 84]⟩),
  (539, 539, ⟨#[73, 69]⟩),
  (540, 549, ⟨#[66, 69, 47, 76, 85]⟩),
  (560, 560, ⟨#[80, 84]⟩),
  (569, 569, ⟨#[73, 83]⟩),
  (570, 579, ⟨#[68, 75]⟩),
  (590, 590, ⟨#[80, 76]⟩),
  (594, 594, ⟨#[82, 79]⟩),
  (599, 599, ⟨#[72, 85]⟩),
  (600, 601, ⟨#[90, 65]⟩),
  (603, 603, ⟨#[71, 72]⟩),
  (608, 608, ⟨#[66, 72]⟩),
  (609, 609, ⟨#[77, 85]⟩),
  (611, 611, ⟨#[77, 65]⟩),
  (613, 613, ⟨#[68, 90]⟩),
  (616, 616, ⟨#[75, 69]⟩),
  (618, 618, ⟨#[67, 73]⟩),
  (619, 619, ⟨#[84, 78]⟩),
  (621, 621, ⟨#[83, 89]⟩),
  (622, 622, ⟨#[69, 71]⟩),
  (624, 624, ⟨#[76, 89]⟩),
  (625, 625, ⟨#[74, 79]⟩),
  (626, 626, ⟨#[73, 82]⟩),
  (627, 627, ⟨#[75, 87]⟩),
  (628, 628, ⟨#[83, 65]⟩),
  (629, 629, ⟨#[65, 69]⟩),
  (640, 649, ⟨#[70, 73]⟩),
  (690, 695, ⟨#[67, 78]⟩),
  (700, 709, ⟨#[78, 79]⟩),
  (729, 729, ⟨#[73, 76]⟩),
  (730, 739, ⟨#[83, 69]⟩),
  (740, 740, ⟨#[71, 84]⟩),
  (741, 741, ⟨#[83, 86]⟩),
  (742, 742, ⟨#[72, 78]⟩),
  (743, 743, ⟨#[78, 73]⟩),
  (744, 744, ⟨#[67, 82]⟩),
  (745, 745, ⟨#[80, 65]⟩),
  (746, 746, ⟨#[68, 79]⟩),
  (750, 750, ⟨#[77, 88]⟩),
  (754, 755, ⟨#[67, 65]⟩),
  (759, 759, ⟨#[86, 69]⟩),
  (760, 769, ⟨#[67, 72]⟩),
  (770, 770, ⟨#[67, 79]⟩),
  (773, 773, ⟨#[85, 89]⟩),
  (775, 775, ⟨#[80, 69]⟩),
  (777, 777, ⟨#[66, 79]⟩),
  (779, 779, ⟨#[65, 82]⟩),
  (780, 780, ⟨#[67, 76]⟩),
  (784, 784, ⟨#[80, 89]⟩),
  (785, 785, ⟨#[80, 69]⟩),
  (786, 786, ⟨#[69, 67]⟩),
  (789, 790, ⟨#[66, 82]⟩),
  (800, 839, ⟨#[73, 84]⟩),
  (840, 849, ⟨#[69, 83]⟩),
  (850, 850, ⟨#[67, 85]⟩),
  (858, 858, ⟨#[83, 75]⟩),
  (859, 859, ⟨#[67, 90]⟩),
  (860, 860, ⟨#[89, 85]⟩),
  (865, 865, ⟨#[77, 78]⟩),
  (867, 867, ⟨#[75, 80]⟩),
  (868, 869, ⟨#[84, 82]⟩),
  (870, 879, ⟨#[78, 76]⟩),
  (880, 880, ⟨#[75, 82]⟩),
  (885, 885, ⟨#[84, 72]⟩),
  (888, 888, ⟨#[83, 71]⟩),
  (890, 890, ⟨#[73, 78]⟩),
  (893, 893, ⟨#[86, 78]⟩),
  (896, 896, ⟨#[80, 75]⟩),
  (899, 899, ⟨#[73, 68]⟩),
  (900, 919, ⟨#[65, 84]⟩),
  (930, 939, ⟨#[65, 85]⟩),
  (940, 949, ⟨#[65, 90]⟩),
  (955, 955, ⟨#[77, 89]⟩),
  (958, 958, ⟨#[77, 79]⟩)]
def landCells (l : List (Nat × Nat × ByteArray)) : List Value := l.flatMap fun x => [.int .i64 (x.1 : Nat), .int .i64 (x.2.1 : Nat), .string x.2.2]
theorem land_get : ∀ (l : List (Nat × Nat × ByteArray)) (k : Nat) (h : k < l.length), (landCells l)[3 * k]? = some (.int .i64 ((l[k].1 : Nat) : Int)) ∧ (landCells l)[3 * k + 1]? = some (.int .i64 ((l[k].2.1 : Nat) : Int)) ∧ (landCells l)[3 * k + 2]? = some (.string l[k].2.2)
  | x :: l, 0, _ => by simp [landCells]
  | x :: l, k + 1, h => by
    obtain ⟨h1, h2, h3⟩ := land_get l k (by simpa using h)
    have e : landCells (x :: l) = [.int .i64 (x.1 : Nat), .int .i64 (x.2.1 : Nat), .string x.2.2] ++ landCells l := rfl
    rw [e, show 3 * (k + 1) = 3 * k + 3 by omega]
    refine ⟨?_, ?_, ?_⟩
    · rw [List.getElem?_append_right (by simp)]; simpa using h1
    · rw [List.getElem?_append_right (by simp)]; simpa using h2
    · rw [List.getElem?_append_right (by simp)]; simpa using h3
theorem lands_small : ∀ x ∈ lands, x.1 < 1000 ∧ x.2.1 < 1000 := by decide

theorem wp_of_run {P : Program} {o : Oper} {a : Act} {w : World} {K : Act → World → Prop} {Q : Exit → Act → World → Prop} (v : Value) (w' : World) (h : (execOp a.eval o).run P w = .ok (.value v) w') (k : K (a.put o.dst v) w') : o.wp P a w K Q := by
  unfold Oper.wp
  rw [h]
  exact k

set_option maxRecDepth 100000 in
set_option maxHeartbeats 4000000 in
theorem lands_any (w : World) : Calls Tryz.prog 94 #[] w fun e w' => e = .returned (.slice (some ⟨w.heap.size, 0, none⟩) 106 106) ∧ Whole w' w.heap.size 175 (landCells lands) ∧ Left' none w w' := by
  go_enter Tryz.func94, Tryz.ntmps94
  go_wp2
  refine wp_of_run (.slice (some ⟨w.heap.size, 0, none⟩) 106 106) (w.alloc (.cells (landCells lands).toArray 175)) (by kernel_rfl) ?_
  go_wp2
  go_ret
  exact ⟨rfl, Whole.new _ _ _, (Left'.refl _ _).alloc _⟩

set_option maxRecDepth 100000 in
set_option maxHeartbeats 4000000 in
/-- LookupCountryIdentifier of a text that begins with three digits. -/
theorem land_any (s : ByteArray) (n : Nat) (ds : Nat → Nat) (w : World) (h : Says s n ds) (hn : 3 ≤ n) (hn2 : n ≤ 100) :
    Calls Tryz.prog 73 #[.string s] w fun e w' => ∃ t, e = .returned (.string t) ∧ Left' none w w' := by
  have hsz := h.size
  have ht : Says (s.extract 0 3) 3 ds := h.take 3 hn
  have H := Lib.hid ht
  clear h ht
  go_enter Tryz.func73, Tryz.ntmps73
  go_wp2_with fail
  refine (atoi_any _ ds _ H.out).mono ?_
  rintro e w1 ⟨v, hv, rfl, hL⟩
  have HL := Lib.hid hL
  clear hL
  go_wp2_with fail
  refine (lands_any w1).mono ?_
  rintro e w2 ⟨rfl, hW, hL2⟩
  have HW := Lib.hid hW
  have HL2 := Lib.hid (HL.out.trans hL2)
  have hgs : w.heap.size ≤ w1.heap.size := HL.out.size
  generalize w1.heap.size = g at *
  clear hW hL2 HL
  go_wp2
  go_loopw [20] (fun i wr => ∃ k : Nat, k ≤ 106 ∧ i = .int .i64 k ∧ Whole wr g 175 (landCells lands) ∧ Left' none w wr) (fun i _ => 106 - (intOf i).toNat)
  case atStart => exact ⟨0, by omega, rfl, HW.out, HL2.out⟩
  case round =>
    clear HW HL2
    obtain ⟨k, hk, rfl, hW, hL⟩ := hrel
    by_cases hk3 : k < 106
    · have hkl : k < lands.length := hk3
      obtain ⟨g1, g2, g3⟩ := land_get lands k hkl
      have hsm := lands_small lands[k] (List.getElem_mem hkl)
      have c1 := hW.cell (3 * k)
      have c2 := hW.cell (3 * k + 1)
      have c3 := hW.cell (3 * k + 2)
      rw [g1, Nat.mul_comm] at c1
      rw [g2, Nat.mul_comm] at c2
      rw [g3, Nat.mul_comm] at c3
      have HF := Lib.hid (And.intro hW hL)
      clear hW hL g1 g2 g3
      generalize lands[k] = x at *
      obtain ⟨a, b, t⟩ := x
      simp only at c1 c2 c3 hsm
      obtain ⟨ha, hb⟩ := hsm
      go_wp2_with fail
      all_goals first
        | (go_ret
           exact ⟨t, rfl, HF.out.2.alloc _⟩)
        | exact ⟨⟨k + 1, by omega, by go_num, HF.out.1.alloc _, HF.out.2.alloc _⟩, by simp [intOf]; omega⟩
    · have hk' : k = 106 := by omega
      have HF := Lib.hid hL
      clear hW hL
      go_wp2
      go_ret
      exact ⟨_, rfl, HF.out⟩
end Go.Proofs.YtojngchcghabiaaGreatDoor
