/-
  UPC-E widened to UPC-A: the digits; the walk over convertUPCEtoUPCA (function 74).
-/
import Derived.Test.YtojngchcghabiaaGreatDoorSpecEight
import Derived.Room.AppendFits
import Derived.Lib.SlBytesConst
namespace Go.Proofs.YtojngchcghabiaaGreatDoor
open Go Go.RowKit

/-- The eleven digits that seven digits of UPC-E stand for. -/
def wideL (ds : Nat → Nat) : List Nat :=
  if ds 6 ≤ 2 then [ds 0, ds 1, ds 2, ds 6, 0, 0, 0, 0, ds 3, ds 4, ds 5]
  else if ds 6 = 3 then [ds 0, ds 1, ds 2, ds 3, 0, 0, 0, 0, 0, ds 4, ds 5]
  else if ds 6 = 4 then [ds 0, ds 1, ds 2, ds 3, ds 4, 0, 0, 0, 0, 0, ds 5]
  else [ds 0, ds 1, ds 2, ds 3, ds 4, ds 5, 0, 0, 0, 0, ds 6]
/-- The same with the check digit behind them. -/
def wd (ds : Nat → Nat) (i : Nat) : Nat := (wideL ds ++ [ds 7]).getD i 0
theorem wideL_length (ds : Nat → Nat) : (wideL ds).length = 11 := by
  unfold wideL; split
  · rfl
  · split
    · rfl
    · split <;> rfl
theorem wideL_low {ds : Nat → Nat} (h : ds 6 ≤ 2) : wideL ds = [ds 0, ds 1, ds 2, ds 6, 0, 0, 0, 0, ds 3, ds 4, ds 5] := by unfold wideL; rw [if_pos h]
theorem wideL_three {ds : Nat → Nat} (h : ds 6 = 3) : wideL ds = [ds 0, ds 1, ds 2, ds 3, 0, 0, 0, 0, 0, ds 4, ds 5] := by unfold wideL; rw [if_neg (by omega), if_pos h]
theorem wideL_four {ds : Nat → Nat} (h : ds 6 = 4) : wideL ds = [ds 0, ds 1, ds 2, ds 3, ds 4, 0, 0, 0, 0, 0, ds 5] := by unfold wideL; rw [if_neg (by omega), if_neg (by omega), if_pos h]
theorem wideL_high {ds : Nat → Nat} (h : 5 ≤ ds 6) : wideL ds = [ds 0, ds 1, ds 2, ds 3, ds 4, ds 5, 0, 0, 0, 0, ds 6] := by unfold wideL; rw [if_neg (by omega), if_neg (by omega), if_neg (by omega)]
theorem wd_lt (ds : Nat → Nat) (h : ∀ i, ds i < 10) (i : Nat) : wd ds i < 10 := by
  have hall : ∀ n ∈ wideL ds ++ [ds 7], n < 10 := by
    intro n hn
    unfold wideL at hn
    have h0 := h 0; have h1 := h 1; have h2 := h 2; have h3 := h 3; have h4 := h 4; have h5 := h 5; have h6 := h 6; have h7 := h 7
    split at hn
    · simp at hn; omega
    · split at hn
      · simp at hn; omega
      · split at hn <;> (simp at hn; omega)
  unfold wd
  rw [List.getD_eq_getElem?_getD]
  rcases Nat.lt_or_ge i (wideL ds ++ [ds 7]).length with hi | hi
  · rw [List.getElem?_eq_getElem hi]; exact hall _ (List.getElem_mem hi)
  · rw [List.getElem?_eq_none hi]; exact Nat.succ_pos 9
/-- Digits as cells. -/
def enc (L : List Nat) : List Value := L.map fun (d : Nat) => Value.int .u8 ((48 + d : Nat) : Int)
theorem enc_append (L M : List Nat) : enc L ++ enc M = enc (L ++ M) := by simp [enc]
theorem bts_enc (ds : Nat → Nat) (n : Nat) (L : List Nat) (hl : L.length = n) (h : ∀ i, i < n → ds i = L.getD i 0) : bts ds n = enc L := by
  unfold bts enc
  apply List.ext_getElem
  · simp [hl]
  · intro i h1 h2
    have hi : i < n := by simpa using h1
    simp only [List.getElem_map, List.getElem_range]
    rw [h i hi, List.getD_eq_getElem?_getD, List.getElem?_eq_getElem (by omega)]
    rfl
theorem bts_wide (ds : Nat → Nat) (L : List Nat) (h : L = wideL ds) : enc (L ++ [ds 7]) = bts (wd ds) 12 := by
  subst h
  exact (bts_enc _ _ _ (by simp [wideL_length]) fun _ _ => rfl).symm

theorem Says.part {s : ByteArray} {n : Nat} {ds : Nat → Nat} (h : Says s n ds) (a b : Nat) (hb : b ≤ n) (_hab : a ≤ b) : Says (s.extract a b) (b - a) (fun i => ds (a + i)) := by
  have hsz := h.size
  refine ⟨by rw [ByteArray.size_extract]; omega, fun i hi => ?_, fun i => h.dig _⟩
  have hi' : i < b - a := by rw [ByteArray.size_extract] at hi; omega
  have e : (s.extract a b)[i] = s[a + i] := by simp [ByteArray.getElem_extract]
  rw [e]
  exact h.byte (a + i) (by omega)
theorem says_cells {s : ByteArray} {n : Nat} {ds : Nat → Nat} (h : Says s n ds) (L : List Nat) (hL : (List.range n).map ds = L) : Lib.strCells s = enc L := by
  subst hL
  unfold Lib.strCells enc
  apply List.ext_getElem
  · have := h.size; simp; exact this
  · intro i h1 h2
    have hi : i < s.size := by simpa using h1
    have := h.byte i hi
    simp only [List.getElem_map, List.getElem_range, Array.getElem_toList]
    congr 1
    exact congrArg Int.ofNat this
theorem own_empty12 {w : World} {gb : Nat} (h : Whole w gb 5 (List.replicate 12 (.int .u8 0))) : w.ownsRow 0 5 1 (.slice (some ⟨gb, 0, none⟩) 0 12) 0 (enc []) :=
  have hh : w.heap[gb]? = some (.cells (List.replicate 12 (Value.int .u8 0)).toArray 5 (0, 0)) := h
  ⟨rfl, .inr ⟨gb, 12, (List.replicate 12 (.int .u8 0)).toArray, rfl, Nat.zero_le _, hh, by omega, by unfold maxLen; omega, by simp, by simp [enc]⟩⟩
theorem new_cells {W : World} {L : List Value} {t : TypeId} (j : Nat) (v : Value) (h : L[j]? = some v) : (W.alloc (.cells L.toArray t)).cell? ((⟨W.heap.size, 0, none⟩ : Addr).add j) = some v := by
  rw [Addr.add_lit, Nat.zero_add, (Whole.new W t L).cell j]
  exact h
theorem new_marked {W : World} {L : List Value} {t : TypeId} {fr : Nat × Nat} (j : Nat) (v : Value) (h : L[j]? = some v) : (W.alloc (.cells L.toArray t fr)).cell? ((⟨W.heap.size, 0, none⟩ : Addr).add j) = some v := by
  rw [Addr.add_lit, Nat.zero_add, World.cell?_alloc_mark]
  simpa using h
theorem int_one (L : List Int) : ∀ u ∈ L.map (Value.int .u8), u.oneCell' = true := by
  intro u hu
  simp only [List.mem_map] at hu
  obtain ⟨z, _, rfl⟩ := hu
  rfl

set_option maxRecDepth 100000 in
set_option maxHeartbeats 4000000 in
/-- convertUPCEtoUPCA of eight digits. -/
theorem convE_any (s : ByteArray) (ds : Nat → Nat) (w : World) (h : Says s 8 ds) :
    Calls Tryz.prog 74 #[.string s] w fun e w' => e = .returned (.string (textOf (wd ds) 12)) ∧ Left' none w w' := by
  have hsz := h.size
  have hsi : (s.size : Int) = 8 := by omega
  have HD := Lib.hid (h.part 1 7 (by omega) (by omega))
  have hds : (s.extract 1 7).size = 6 := by rw [ByteArray.size_extract]; omega
  have H := Lib.hid h
  have h0s : 0 < s.size := by omega
  have h7s : 7 < s.size := by omega
  have hz0 := h.byte 0 h0s
  have hz7 := h.byte 7 h7s
  have HZ := Lib.hid (And.intro hz0 hz7)
  clear h hz0 hz7
  obtain ⟨i5, hi5, hz5, hz51, hz52⟩ := info_parts info5
  have HI := Lib.hid (And.intro hi5 hz51)
  clear hi5 hz5 hz51 hz52
  have m2 := fun W => run_make_cap (P := Tryz.prog) 66 5 (.int .u8 0) 1 Tryz.underlying66 info5 rfl 12 (by omega) (by omega) W
  have m2' : ∀ W : World, (Instr.makeSlice 66 (.int .i64 0) (.int .i64 12)).run Tryz.prog W = .ok (.slice (some ⟨W.heap.size, 0, none⟩) 0 12) (W.alloc (.cells (reps 12 (.int .u8 0)) 5)) := m2
  clear m2
  have HO0 := Lib.hid (own_empty12 (Whole.reps w 5 12 (.int .u8 0)))
  have HL0 := Lib.hid (show Left' none w (w.alloc (.cells (reps 12 (.int .u8 0)) 5)) from (Left'.refl _ _).alloc _)
  have HOa := Lib.hid (HO0.out.alloc (.cells #[.int .u8 (s[0].toNat : Int)] 5))
  go_enter Tryz.func74, Tryz.ntmps74

  go_wp2_with (at_builtin; refine wpList_append_fits _ rfl (.tmp 9) (.tmp 12) 66 rfl 0 5 i5 1 Tryz.underlying66 HI.out.1 HI.out.2 w.heap.size 0 12 (enc []) rfl HOa.out ⟨w.heap.size + 1, 0, none⟩ 1 1 [.int .u8 (s[0].toNat : Int)] rfl rfl (fun j v hj => by have := new_cells (t := 5) (W := w.alloc (.cells (reps 12 (.int .u8 0)) 5)) j v hj; rwa [World.size_alloc] at this) (int_one [(s[0].toNat : Int)]) (by omega) ?_)
  intro w1 hO hL
  have hL2 := (HL0.out.alloc (.cells #[.int .u8 (s[0].toNat : Int)] 5)).ownOne hL (.inr (Nat.le_refl _))
  have e1 : ([Value.int .u8 (s[0].toNat : Int)] : List Value) = enc [ds 0] := by rw [HZ.out.1]; rfl
  rw [e1, enc_append] at hO
  have HO := Lib.hid (show w1.ownsRow 0 5 1 (.slice (some ⟨w.heap.size, 0, none⟩) 1 12) 1 (enc [ds 0]) from hO)
  have HL := Lib.hid hL2
  clear hO hL hL2 e1
  clear HO0 HL0 HOa m2'
  generalize hgb : w.heap.size = gb at *
  generalize s.extract 1 7 = d at *
  have h5d : 5 < d.size := by omega
  have hd5 := HD.out.byte 5 h5d
  have hc : ds 6 = 0 ∨ ds 6 = 1 ∨ ds 6 = 2 ∨ ds 6 = 3 ∨ ds 6 = 4 ∨ 5 ≤ ds 6 := by omega
  have hd5' : d[5].toNat = 48 + ds 6 := hd5
  have HD5 := Lib.hid hd5'
  have e25 : ∀ a b, a ≤ b → b ≤ 6 → (d.extract a b).size = b - a := fun a b h1 h2 => by rw [ByteArray.size_extract]; omega
  have HE := Lib.hid e25
  have h4d : 4 < d.size := by omega
  have HD4 := Lib.hid (show d[4].toNat = 48 + ds 5 from HD.out.byte 4 h4d)
  clear hd5 e25
  rcases hc with hc | hc | hc | hc | hc | hc
  · have HC := Lib.hid (show ds 6 ≤ 2 by omega)
    have t48 : ((d[5].toNat : Int) == 48) = true := by simp; omega
    clear hc hd5'
    go_wp2_with (at_builtin; refine Lib.wpList_append_fits_string _ rfl (.tmp 33) (.tmp 35) 66 9 rfl 0 5 i5 Tryz.underlying66 Tryz.underlying9 HI.out.1 HI.out.2 (some ⟨gb, 0, none⟩) 1 12 (enc [ds 0]) rfl HO.out (d.extract 0 2) rfl (by omega) (by rw [HE.out 0 2 (by omega) (by omega)]; omega) ?_)
    intro w2 hO hL
    have hL2 := (HL.out).ownOne hL (.inr (Nat.le_of_eq hgb))
    have e1 : Lib.strCells (d.extract 0 2) = enc [ds 1, ds 2] := says_cells (HD.out.part 0 2 (by omega) (by omega)) _ rfl
    rw [e1, enc_append] at hO
    have HO := Lib.hid (show w2.ownsRow 0 5 1 (.slice (some ⟨gb, 0, none⟩) 3 12) 3 (enc [ds 0, ds 1, ds 2]) from hO)
    have HL := Lib.hid hL2
    clear hO hL hL2 e1
    have HOa := Lib.hid (HO.out.alloc (.cells #[.int .u8 (d[5].toNat : Int)] 5))
    go_wp2_with (at_builtin; refine wpList_append_fits _ rfl (.tmp 37) (.tmp 39) 66 rfl 0 5 i5 1 Tryz.underlying66 HI.out.1 HI.out.2 gb 3 12 (enc [ds 0, ds 1, ds 2]) rfl HOa.out ⟨w2.heap.size, 0, none⟩ 1 1 [.int .u8 (d[5].toNat : Int)] rfl rfl (fun j v hj => new_cells (t := 5) (W := w2) j v hj) (int_one [(d[5].toNat : Int)]) (by omega) ?_)
    intro w3 hO hL
    have hL2 := (HL.out.alloc (.cells #[.int .u8 (d[5].toNat : Int)] 5)).ownOne hL (.inr (Nat.le_of_eq hgb))
    have e1 : ([Value.int .u8 (d[5].toNat : Int)] : List Value) = enc [ds 6] := by rw [HD5.out]; rfl
    rw [e1, enc_append] at hO
    have HO := Lib.hid (show w3.ownsRow 0 5 1 (.slice (some ⟨gb, 0, none⟩) 4 12) 4 (enc [ds 0, ds 1, ds 2, ds 6]) from hO)
    have HL := Lib.hid hL2
    clear hO hL hL2 e1
    clear HOa
    have hcv : (convert 66 66 (.slice (some ⟨w3.heap.size, 0, none⟩) 4 4)).run Tryz.prog (w3.alloc (.cells #[.int .u8 48, .int .u8 48, .int .u8 48, .int .u8 48] 5)) = .ok (.slice (some ⟨w3.heap.size, 0, none⟩) 4 4) (w3.alloc (.cells #[.int .u8 48, .int .u8 48, .int .u8 48, .int .u8 48] 5 (4, 5))) := Lib.run_convert_bytes_const w3 66 5 #[.int .u8 48, .int .u8 48, .int .u8 48, .int .u8 48] 4 4 Tryz.underlying66 Tryz.underlying5
    have HOa := Lib.hid (HO.out.alloc (.cells #[.int .u8 48, .int .u8 48, .int .u8 48, .int .u8 48] 5 (4, 5)))
    go_wp2_with (at_builtin; refine wpList_append_fits _ rfl (.tmp 41) (.tmp 43) 66 rfl 0 5 i5 1 Tryz.underlying66 HI.out.1 HI.out.2 gb 4 12 (enc [ds 0, ds 1, ds 2, ds 6]) rfl HOa.out ⟨w3.heap.size, 0, none⟩ 4 4 [.int .u8 48, .int .u8 48, .int .u8 48, .int .u8 48] rfl rfl (fun j v hj => new_marked (t := 5) (W := w3) j v hj) (int_one [48, 48, 48, 48]) (by omega) ?_)
    intro w4 hO hL
    have hL2 := (HL.out.alloc (.cells #[.int .u8 48, .int .u8 48, .int .u8 48, .int .u8 48] 5 (4, 5))).ownOne hL (.inr (Nat.le_of_eq hgb))
    have e1 : ([Value.int .u8 48, Value.int .u8 48, Value.int .u8 48, Value.int .u8 48] : List Value) = enc [0, 0, 0, 0] := rfl
    rw [e1, enc_append] at hO
    have HO := Lib.hid (show w4.ownsRow 0 5 1 (.slice (some ⟨gb, 0, none⟩) 8 12) 8 (enc [ds 0, ds 1, ds 2, ds 6, 0, 0, 0, 0]) from hO)
    have HL := Lib.hid hL2
    clear hO hL hL2 e1
    clear HOa hcv
    go_wp2_with (at_builtin; refine Lib.wpList_append_fits_string _ rfl (.tmp 45) (.tmp 47) 66 9 rfl 0 5 i5 Tryz.underlying66 Tryz.underlying9 HI.out.1 HI.out.2 (some ⟨gb, 0, none⟩) 8 12 (enc [ds 0, ds 1, ds 2, ds 6, 0, 0, 0, 0]) rfl HO.out (d.extract 2 5) rfl (by omega) (by rw [HE.out 2 5 (by omega) (by omega)]; omega) ?_)
    intro w5 hO hL
    have hL2 := (HL.out).ownOne hL (.inr (Nat.le_of_eq hgb))
    have e1 : Lib.strCells (d.extract 2 5) = enc [ds 3, ds 4, ds 5] := says_cells (HD.out.part 2 5 (by omega) (by omega)) _ rfl
    rw [e1, enc_append] at hO
    have HO := Lib.hid (show w5.ownsRow 0 5 1 (.slice (some ⟨gb, 0, none⟩) 11 12) 11 (enc [ds 0, ds 1, ds 2, ds 6, 0, 0, 0, 0, ds 3, ds 4, ds 5]) from hO)
    have HL := Lib.hid hL2
    clear hO hL hL2 e1
    have HOa := Lib.hid (HO.out.alloc (.cells #[.int .u8 (s[7].toNat : Int)] 5))
    go_wp2_with (at_builtin; refine wpList_append_fits _ rfl (.tmp 81) (.tmp 84) 66 rfl 0 5 i5 1 Tryz.underlying66 HI.out.1 HI.out.2 gb 11 12 (enc [ds 0, ds 1, ds 2, ds 6, 0, 0, 0, 0, ds 3, ds 4, ds 5]) rfl HOa.out ⟨w5.heap.size, 0, none⟩ 1 1 [.int .u8 (s[7].toNat : Int)] rfl rfl (fun j v hj => new_cells (t := 5) (W := w5) j v hj) (int_one [(s[7].toNat : Int)]) (by omega) ?_)
    intro w6 hO hL
    have hL2 := (HL.out.alloc (.cells #[.int .u8 (s[7].toNat : Int)] 5)).ownOne hL (.inr (Nat.le_of_eq hgb))
    have e1 : ([Value.int .u8 (s[7].toNat : Int)] : List Value) = enc [ds 7] := by rw [HZ.out.2]; rfl
    rw [e1, enc_append] at hO
    have HO := Lib.hid (show w6.ownsRow 0 5 1 (.slice (some ⟨gb, 0, none⟩) 12 12) 12 (enc [ds 0, ds 1, ds 2, ds 6, 0, 0, 0, 0, ds 3, ds 4, ds 5, ds 7]) from hO)
    have HL := Lib.hid hL2
    clear hO hL hL2 e1
    clear HOa
    have e1 : enc [ds 0, ds 1, ds 2, ds 6, 0, 0, 0, 0, ds 3, ds 4, ds 5, ds 7] = bts (wd ds) 12 := bts_wide ds [ds 0, ds 1, ds 2, ds 6, 0, 0, 0, 0, ds 3, ds 4, ds 5] (wideL_low HC.out).symm
    have hO := HO.out
    rw [e1] at hO
    have htx := run_text gb 12 12 (wd ds) _ hO
    clear hO e1
    go_wp2
    go_ret
    exact ⟨rfl, HL.out⟩
  · have HC := Lib.hid (show ds 6 ≤ 2 by omega)
    have t48 : ((d[5].toNat : Int) == 48) = false := by simp; omega
    have t49 : ((d[5].toNat : Int) == 49) = true := by simp; omega
    clear hc hd5'
    go_wp2_with (at_builtin; refine Lib.wpList_append_fits_string _ rfl (.tmp 33) (.tmp 35) 66 9 rfl 0 5 i5 Tryz.underlying66 Tryz.underlying9 HI.out.1 HI.out.2 (some ⟨gb, 0, none⟩) 1 12 (enc [ds 0]) rfl HO.out (d.extract 0 2) rfl (by omega) (by rw [HE.out 0 2 (by omega) (by omega)]; omega) ?_)
    intro w2 hO hL
    have hL2 := (HL.out).ownOne hL (.inr (Nat.le_of_eq hgb))
    have e1 : Lib.strCells (d.extract 0 2) = enc [ds 1, ds 2] := says_cells (HD.out.part 0 2 (by omega) (by omega)) _ rfl
    rw [e1, enc_append] at hO
    have HO := Lib.hid (show w2.ownsRow 0 5 1 (.slice (some ⟨gb, 0, none⟩) 3 12) 3 (enc [ds 0, ds 1, ds 2]) from hO)
    have HL := Lib.hid hL2
    clear hO hL hL2 e1
    have HOa := Lib.hid (HO.out.alloc (.cells #[.int .u8 (d[5].toNat : Int)] 5))
    go_wp2_with (at_builtin; refine wpList_append_fits _ rfl (.tmp 37) (.tmp 39) 66 rfl 0 5 i5 1 Tryz.underlying66 HI.out.1 HI.out.2 gb 3 12 (enc [ds 0, ds 1, ds 2]) rfl HOa.out ⟨w2.heap.size, 0, none⟩ 1 1 [.int .u8 (d[5].toNat : Int)] rfl rfl (fun j v hj => new_cells (t := 5) (W := w2) j v hj) (int_one [(d[5].toNat : Int)]) (by omega) ?_)
    intro w3 hO hL
    have hL2 := (HL.out.alloc (.cells #[.int .u8 (d[5].toNat : Int)] 5)).ownOne hL (.inr (Nat.le_of_eq hgb))
    have e1 : ([Value.int .u8 (d[5].toNat : Int)] : List Value) = enc [ds 6] := by rw [HD5.out]; rfl
    rw [e1, enc_append] at hO
    have HO := Lib.hid (show w3.ownsRow 0 5 1 (.slice (some ⟨gb, 0, none⟩) 4 12) 4 (enc [ds 0, ds 1, ds 2, ds 6]) from hO)
    have HL := Lib.hid hL2
    clear hO hL hL2 e1
    clear HOa
    have hcv : (convert 66 66 (.slice (some ⟨w3.heap.size, 0, none⟩) 4 4)).run Tryz.prog (w3.alloc (.cells #[.int .u8 48, .int .u8 48, .int .u8 48, .int .u8 48] 5)) = .ok (.slice (some ⟨w3.heap.size, 0, none⟩) 4 4) (w3.alloc (.cells #[.int .u8 48, .int .u8 48, .int .u8 48, .int .u8 48] 5 (4, 5))) := Lib.run_convert_bytes_const w3 66 5 #[.int .u8 48, .int .u8 48, .int .u8 48, .int .u8 48] 4 4 Tryz.underlying66 Tryz.underlying5
    have HOa := Lib.hid (HO.out.alloc (.cells #[.int .u8 48, .int .u8 48, .int .u8 48, .int .u8 48] 5 (4, 5)))
    go_wp2_with (at_builtin; refine wpList_append_fits _ rfl (.tmp 41) (.tmp 43) 66 rfl 0 5 i5 1 Tryz.underlying66 HI.out.1 HI.out.2 gb 4 12 (enc [ds 0, ds 1, ds 2, ds 6]) rfl HOa.out ⟨w3.heap.size, 0, none⟩ 4 4 [.int .u8 48, .int .u8 48, .int .u8 48, .int .u8 48] rfl rfl (fun j v hj => new_marked (t := 5) (W := w3) j v hj) (int_one [48, 48, 48, 48]) (by omega) ?_)
    intro w4 hO hL
    have hL2 := (HL.out.alloc (.cells #[.int .u8 48, .int .u8 48, .int .u8 48, .int .u8 48] 5 (4, 5))).ownOne hL (.inr (Nat.le_of_eq hgb))
    have e1 : ([Value.int .u8 48, Value.int .u8 48, Value.int .u8 48, Value.int .u8 48] : List Value) = enc [0, 0, 0, 0] := rfl
    rw [e1, enc_append] at hO
    have HO := Lib.hid (show w4.ownsRow 0 5 1 (.slice (some ⟨gb, 0, none⟩) 8 12) 8 (enc [ds 0, ds 1, ds 2, ds 6, 0, 0, 0, 0]) from hO)
    have HL := Lib.hid hL2
    clear hO hL hL2 e1
    clear HOa hcv
    go_wp2_with (at_builtin; refine Lib.wpList_append_fits_string _ rfl (.tmp 45) (.tmp 47) 66 9 rfl 0 5 i5 Tryz.underlying66 Tryz.underlying9 HI.out.1 HI.out.2 (some ⟨gb, 0, none⟩) 8 12 (enc [ds 0, ds 1, ds 2, ds 6, 0, 0, 0, 0]) rfl HO.out (d.extract 2 5) rfl (by omega) (by rw [HE.out 2 5 (by omega) (by omega)]; omega) ?_)
    intro w5 hO hL
    have hL2 := (HL.out).ownOne hL (.inr (Nat.le_of_eq hgb))
    have e1 : Lib.strCells (d.extract 2 5) = enc [ds 3, ds 4, ds 5] := says_cells (HD.out.part 2 5 (by omega) (by omega)) _ rfl
    rw [e1, enc_append] at hO
    have HO := Lib.hid (show w5.ownsRow 0 5 1 (.slice (some ⟨gb, 0, none⟩) 11 12) 11 (enc [ds 0, ds 1, ds 2, ds 6, 0, 0, 0, 0, ds 3, ds 4, ds 5]) from hO)
    have HL := Lib.hid hL2
    clear hO hL hL2 e1
    have HOa := Lib.hid (HO.out.alloc (.cells #[.int .u8 (s[7].toNat : Int)] 5))
    go_wp2_with (at_builtin; refine wpList_append_fits _ rfl (.tmp 81) (.tmp 84) 66 rfl 0 5 i5 1 Tryz.underlying66 HI.out.1 HI.out.2 gb 11 12 (enc [ds 0, ds 1, ds 2, ds 6, 0, 0, 0, 0, ds 3, ds 4, ds 5]) rfl HOa.out ⟨w5.heap.size, 0, none⟩ 1 1 [.int .u8 (s[7].toNat : Int)] rfl rfl (fun j v hj => new_cells (t := 5) (W := w5) j v hj) (int_one [(s[7].toNat : Int)]) (by omega) ?_)
    intro w6 hO hL
    have hL2 := (HL.out.alloc (.cells #[.int .u8 (s[7].toNat : Int)] 5)).ownOne hL (.inr (Nat.le_of_eq hgb))
    have e1 : ([Value.int .u8 (s[7].toNat : Int)] : List Value) = enc [ds 7] := by rw [HZ.out.2]; rfl
    rw [e1, enc_append] at hO
    have HO := Lib.hid (show w6.ownsRow 0 5 1 (.slice (some ⟨gb, 0, none⟩) 12 12) 12 (enc [ds 0, ds 1, ds 2, ds 6, 0, 0, 0, 0, ds 3, ds 4, ds 5, ds 7]) from hO)
    have HL := Lib.hid hL2
    clear hO hL hL2 e1
    clear HOa
    have e1 : enc [ds 0, ds 1, ds 2, ds 6, 0, 0, 0, 0, ds 3, ds 4, ds 5, ds 7] = bts (wd ds) 12 := bts_wide ds [ds 0, ds 1, ds 2, ds 6, 0, 0, 0, 0, ds 3, ds 4, ds 5] (wideL_low HC.out).symm
    have hO := HO.out
    rw [e1] at hO
    have htx := run_text gb 12 12 (wd ds) _ hO
    clear hO e1
    go_wp2
    go_ret
    exact ⟨rfl, HL.out⟩
  · have HC := Lib.hid (show ds 6 ≤ 2 by omega)
    have t48 : ((d[5].toNat : Int) == 48) = false := by simp; omega
    have t49 : ((d[5].toNat : Int) == 49) = false := by simp; omega
    have t50 : ((d[5].toNat : Int) == 50) = true := by simp; omega
    clear hc hd5'
    go_wp2_with (at_builtin; refine Lib.wpList_append_fits_string _ rfl (.tmp 33) (.tmp 35) 66 9 rfl 0 5 i5 Tryz.underlying66 Tryz.underlying9 HI.out.1 HI.out.2 (some ⟨gb, 0, none⟩) 1 12 (enc [ds 0]) rfl HO.out (d.extract 0 2) rfl (by omega) (by rw [HE.out 0 2 (by omega) (by omega)]; omega) ?_)
    intro w2 hO hL
    have hL2 := (HL.out).ownOne hL (.inr (Nat.le_of_eq hgb))
    have e1 : Lib.strCells (d.extract 0 2) = enc [ds 1, ds 2] := says_cells (HD.out.part 0 2 (by omega) (by omega)) _ rfl
    rw [e1, enc_append] at hO
    have HO := Lib.hid (show w2.ownsRow 0 5 1 (.slice (some ⟨gb, 0, none⟩) 3 12) 3 (enc [ds 0, ds 1, ds 2]) from hO)
    have HL := Lib.hid hL2
    clear hO hL hL2 e1
    have HOa := Lib.hid (HO.out.alloc (.cells #[.int .u8 (d[5].toNat : Int)] 5))
    go_wp2_with (at_builtin; refine wpList_append_fits _ rfl (.tmp 37) (.tmp 39) 66 rfl 0 5 i5 1 Tryz.underlying66 HI.out.1 HI.out.2 gb 3 12 (enc [ds 0, ds 1, ds 2]) rfl HOa.out ⟨w2.heap.size, 0, none⟩ 1 1 [.int .u8 (d[5].toNat : Int)] rfl rfl (fun j v hj => new_cells (t := 5) (W := w2) j v hj) (int_one [(d[5].toNat : Int)]) (by omega) ?_)
    intro w3 hO hL
    have hL2 := (HL.out.alloc (.cells #[.int .u8 (d[5].toNat : Int)] 5)).ownOne hL (.inr (Nat.le_of_eq hgb))
    have e1 : ([Value.int .u8 (d[5].toNat : Int)] : List Value) = enc [ds 6] := by rw [HD5.out]; rfl
    rw [e1, enc_append] at hO
    have HO := Lib.hid (show w3.ownsRow 0 5 1 (.slice (some ⟨gb, 0, none⟩) 4 12) 4 (enc [ds 0, ds 1, ds 2, ds 6]) from hO)
    have HL := Lib.hid hL2
    clear hO hL hL2 e1
    clear HOa
    have hcv : (convert 66 66 (.slice (some ⟨w3.heap.size, 0, none⟩) 4 4)).run Tryz.prog (w3.alloc (.cells #[.int .u8 48, .int .u8 48, .int .u8 48, .int .u8 48] 5)) = .ok (.slice (some ⟨w3.heap.size, 0, none⟩) 4 4) (w3.alloc (.cells #[.int .u8 48, .int .u8 48, .int .u8 48, .int .u8 48] 5 (4, 5))) := Lib.run_convert_bytes_const w3 66 5 #[.int .u8 48, .int .u8 48, .int .u8 48, .int .u8 48] 4 4 Tryz.underlying66 Tryz.underlying5
    have HOa := Lib.hid (HO.out.alloc (.cells #[.int .u8 48, .int .u8 48, .int .u8 48, .int .u8 48] 5 (4, 5)))
    go_wp2_with (at_builtin; refine wpList_append_fits _ rfl (.tmp 41) (.tmp 43) 66 rfl 0 5 i5 1 Tryz.underlying66 HI.out.1 HI.out.2 gb 4 12 (enc [ds 0, ds 1, ds 2, ds 6]) rfl HOa.out ⟨w3.heap.size, 0, none⟩ 4 4 [.int .u8 48, .int .u8 48, .int .u8 48, .int .u8 48] rfl rfl (fun j v hj => new_marked (t := 5) (W := w3) j v hj) (int_one [48, 48, 48, 48]) (by omega) ?_)
    intro w4 hO hL
    have hL2 := (HL.out.alloc (.cells #[.int .u8 48, .int .u8 48, .int .u8 48, .int .u8 48] 5 (4, 5))).ownOne hL (.inr (Nat.le_of_eq hgb))
    have e1 : ([Value.int .u8 48, Value.int .u8 48, Value.int .u8 48, Value.int .u8 48] : List Value) = enc [0, 0, 0, 0] := rfl
    rw [e1, enc_append] at hO
    have HO := Lib.hid (show w4.ownsRow 0 5 1 (.slice (some ⟨gb, 0, none⟩) 8 12) 8 (enc [ds 0, ds 1, ds 2, ds 6, 0, 0, 0, 0]) from hO)
    have HL := Lib.hid hL2
    clear hO hL hL2 e1
    clear HOa hcv
    go_wp2_with (at_builtin; refine Lib.wpList_append_fits_string _ rfl (.tmp 45) (.tmp 47) 66 9 rfl 0 5 i5 Tryz.underlying66 Tryz.underlying9 HI.out.1 HI.out.2 (some ⟨gb, 0, none⟩) 8 12 (enc [ds 0, ds 1, ds 2, ds 6, 0, 0, 0, 0]) rfl HO.out (d.extract 2 5) rfl (by omega) (by rw [HE.out 2 5 (by omega) (by omega)]; omega) ?_)
    intro w5 hO hL
    have hL2 := (HL.out).ownOne hL (.inr (Nat.le_of_eq hgb))
    have e1 : Lib.strCells (d.extract 2 5) = enc [ds 3, ds 4, ds 5] := says_cells (HD.out.part 2 5 (by omega) (by omega)) _ rfl
    rw [e1, enc_append] at hO
    have HO := Lib.hid (show w5.ownsRow 0 5 1 (.slice (some ⟨gb, 0, none⟩) 11 12) 11 (enc [ds 0, ds 1, ds 2, ds 6, 0, 0, 0, 0, ds 3, ds 4, ds 5]) from hO)
    have HL := Lib.hid hL2
    clear hO hL hL2 e1
    have HOa := Lib.hid (HO.out.alloc (.cells #[.int .u8 (s[7].toNat : Int)] 5))
    go_wp2_with (at_builtin; refine wpList_append_fits _ rfl (.tmp 81) (.tmp 84) 66 rfl 0 5 i5 1 Tryz.underlying66 HI.out.1 HI.out.2 gb 11 12 (enc [ds 0, ds 1, ds 2, ds 6, 0, 0, 0, 0, ds 3, ds 4, ds 5]) rfl HOa.out ⟨w5.heap.size, 0, none⟩ 1 1 [.int .u8 (s[7].toNat : Int)] rfl rfl (fun j v hj => new_cells (t := 5) (W := w5) j v hj) (int_one [(s[7].toNat : Int)]) (by omega) ?_)
    intro w6 hO hL
    have hL2 := (HL.out.alloc (.cells #[.int .u8 (s[7].toNat : Int)] 5)).ownOne hL (.inr (Nat.le_of_eq hgb))
    have e1 : ([Value.int .u8 (s[7].toNat : Int)] : List Value) = enc [ds 7] := by rw [HZ.out.2]; rfl
    rw [e1, enc_append] at hO
    have HO := Lib.hid (show w6.ownsRow 0 5 1 (.slice (some ⟨gb, 0, none⟩) 12 12) 12 (enc [ds 0, ds 1, ds 2, ds 6, 0, 0, 0, 0, ds 3, ds 4, ds 5, ds 7]) from hO)
    have HL := Lib.hid hL2
    clear hO hL hL2 e1
    clear HOa
    have e1 : enc [ds 0, ds 1, ds 2, ds 6, 0, 0, 0, 0, ds 3, ds 4, ds 5, ds 7] = bts (wd ds) 12 := bts_wide ds [ds 0, ds 1, ds 2, ds 6, 0, 0, 0, 0, ds 3, ds 4, ds 5] (wideL_low HC.out).symm
    have hO := HO.out
    rw [e1] at hO
    have htx := run_text gb 12 12 (wd ds) _ hO
    clear hO e1
    go_wp2
    go_ret
    exact ⟨rfl, HL.out⟩
  · have HC := Lib.hid hc
    have t48 : ((d[5].toNat : Int) == 48) = false := by simp; omega
    have t49 : ((d[5].toNat : Int) == 49) = false := by simp; omega
    have t50 : ((d[5].toNat : Int) == 50) = false := by simp; omega
    have t51 : ((d[5].toNat : Int) == 51) = true := by simp; omega
    clear hc hd5'
    go_wp2_with (at_builtin; refine Lib.wpList_append_fits_string _ rfl (.tmp 51) (.tmp 53) 66 9 rfl 0 5 i5 Tryz.underlying66 Tryz.underlying9 HI.out.1 HI.out.2 (some ⟨gb, 0, none⟩) 1 12 (enc [ds 0]) rfl HO.out (d.extract 0 3) rfl (by omega) (by rw [HE.out 0 3 (by omega) (by omega)]; omega) ?_)
    intro w2 hO hL
    have hL2 := (HL.out).ownOne hL (.inr (Nat.le_of_eq hgb))
    have e1 : Lib.strCells (d.extract 0 3) = enc [ds 1, ds 2, ds 3] := says_cells (HD.out.part 0 3 (by omega) (by omega)) _ rfl
    rw [e1, enc_append] at hO
    have HO := Lib.hid (show w2.ownsRow 0 5 1 (.slice (some ⟨gb, 0, none⟩) 4 12) 4 (enc [ds 0, ds 1, ds 2, ds 3]) from hO)
    have HL := Lib.hid hL2
    clear hO hL hL2 e1
    have hcv : (convert 66 66 (.slice (some ⟨w2.heap.size, 0, none⟩) 5 5)).run Tryz.prog (w2.alloc (.cells #[.int .u8 48, .int .u8 48, .int .u8 48, .int .u8 48, .int .u8 48] 5)) = .ok (.slice (some ⟨w2.heap.size, 0, none⟩) 5 5) (w2.alloc (.cells #[.int .u8 48, .int .u8 48, .int .u8 48, .int .u8 48, .int .u8 48] 5 (5, 6))) := Lib.run_convert_bytes_const w2 66 5 #[.int .u8 48, .int .u8 48, .int .u8 48, .int .u8 48, .int .u8 48] 5 5 Tryz.underlying66 Tryz.underlying5
    have HOa := Lib.hid (HO.out.alloc (.cells #[.int .u8 48, .int .u8 48, .int .u8 48, .int .u8 48, .int .u8 48] 5 (5, 6)))
    go_wp2_with (at_builtin; refine wpList_append_fits _ rfl (.tmp 55) (.tmp 57) 66 rfl 0 5 i5 1 Tryz.underlying66 HI.out.1 HI.out.2 gb 4 12 (enc [ds 0, ds 1, ds 2, ds 3]) rfl HOa.out ⟨w2.heap.size, 0, none⟩ 5 5 [.int .u8 48, .int .u8 48, .int .u8 48, .int .u8 48, .int .u8 48] rfl rfl (fun j v hj => new_marked (t := 5) (W := w2) j v hj) (int_one [48, 48, 48, 48, 48]) (by omega) ?_)
    intro w3 hO hL
    have hL2 := (HL.out.alloc (.cells #[.int .u8 48, .int .u8 48, .int .u8 48, .int .u8 48, .int .u8 48] 5 (5, 6))).ownOne hL (.inr (Nat.le_of_eq hgb))
    have e1 : ([Value.int .u8 48, Value.int .u8 48, Value.int .u8 48, Value.int .u8 48, Value.int .u8 48] : List Value) = enc [0, 0, 0, 0, 0] := rfl
    rw [e1, enc_append] at hO
    have HO := Lib.hid (show w3.ownsRow 0 5 1 (.slice (some ⟨gb, 0, none⟩) 9 12) 9 (enc [ds 0, ds 1, ds 2, ds 3, 0, 0, 0, 0, 0]) from hO)
    have HL := Lib.hid hL2
    clear hO hL hL2 e1
    clear HOa hcv
    go_wp2_with (at_builtin; refine Lib.wpList_append_fits_string _ rfl (.tmp 59) (.tmp 61) 66 9 rfl 0 5 i5 Tryz.underlying66 Tryz.underlying9 HI.out.1 HI.out.2 (some ⟨gb, 0, none⟩) 9 12 (enc [ds 0, ds 1, ds 2, ds 3, 0, 0, 0, 0, 0]) rfl HO.out (d.extract 3 5) rfl (by omega) (by rw [HE.out 3 5 (by omega) (by omega)]; omega) ?_)
    intro w4 hO hL
    have hL2 := (HL.out).ownOne hL (.inr (Nat.le_of_eq hgb))
    have e1 : Lib.strCells (d.extract 3 5) = enc [ds 4, ds 5] := says_cells (HD.out.part 3 5 (by omega) (by omega)) _ rfl
    rw [e1, enc_append] at hO
    have HO := Lib.hid (show w4.ownsRow 0 5 1 (.slice (some ⟨gb, 0, none⟩) 11 12) 11 (enc [ds 0, ds 1, ds 2, ds 3, 0, 0, 0, 0, 0, ds 4, ds 5]) from hO)
    have HL := Lib.hid hL2
    clear hO hL hL2 e1
    have HOa := Lib.hid (HO.out.alloc (.cells #[.int .u8 (s[7].toNat : Int)] 5))
    go_wp2_with (at_builtin; refine wpList_append_fits _ rfl (.tmp 81) (.tmp 84) 66 rfl 0 5 i5 1 Tryz.underlying66 HI.out.1 HI.out.2 gb 11 12 (enc [ds 0, ds 1, ds 2, ds 3, 0, 0, 0, 0, 0, ds 4, ds 5]) rfl HOa.out ⟨w4.heap.size, 0, none⟩ 1 1 [.int .u8 (s[7].toNat : Int)] rfl rfl (fun j v hj => new_cells (t := 5) (W := w4) j v hj) (int_one [(s[7].toNat : Int)]) (by omega) ?_)
    intro w5 hO hL
    have hL2 := (HL.out.alloc (.cells #[.int .u8 (s[7].toNat : Int)] 5)).ownOne hL (.inr (Nat.le_of_eq hgb))
    have e1 : ([Value.int .u8 (s[7].toNat : Int)] : List Value) = enc [ds 7] := by rw [HZ.out.2]; rfl
    rw [e1, enc_append] at hO
    have HO := Lib.hid (show w5.ownsRow 0 5 1 (.slice (some ⟨gb, 0, none⟩) 12 12) 12 (enc [ds 0, ds 1, ds 2, ds 3, 0, 0, 0, 0, 0, ds 4, ds 5, ds 7]) from hO)
    have HL := Lib.hid hL2
    clear hO hL hL2 e1
    clear HOa
    have e1 : enc [ds 0, ds 1, ds 2, ds 3, 0, 0, 0, 0, 0, ds 4, ds 5, ds 7] = bts (wd ds) 12 := bts_wide ds [ds 0, ds 1, ds 2, ds 3, 0, 0, 0, 0, 0, ds 4, ds 5] (wideL_three HC.out).symm
    have hO := HO.out
    rw [e1] at hO
    have htx := run_text gb 12 12 (wd ds) _ hO
    clear hO e1
    go_wp2
    go_ret
    exact ⟨rfl, HL.out⟩
  · have HC := Lib.hid hc
    have t48 : ((d[5].toNat : Int) == 48) = false := by simp; omega
    have t49 : ((d[5].toNat : Int) == 49) = false := by simp; omega
    have t50 : ((d[5].toNat : Int) == 50) = false := by simp; omega
    have t51 : ((d[5].toNat : Int) == 51) = false := by simp; omega
    have t52 : ((d[5].toNat : Int) == 52) = true := by simp; omega
    clear hc hd5'
    go_wp2_with (at_builtin; refine Lib.wpList_append_fits_string _ rfl (.tmp 65) (.tmp 67) 66 9 rfl 0 5 i5 Tryz.underlying66 Tryz.underlying9 HI.out.1 HI.out.2 (some ⟨gb, 0, none⟩) 1 12 (enc [ds 0]) rfl HO.out (d.extract 0 4) rfl (by omega) (by rw [HE.out 0 4 (by omega) (by omega)]; omega) ?_)
    intro w2 hO hL
    have hL2 := (HL.out).ownOne hL (.inr (Nat.le_of_eq hgb))
    have e1 : Lib.strCells (d.extract 0 4) = enc [ds 1, ds 2, ds 3, ds 4] := says_cells (HD.out.part 0 4 (by omega) (by omega)) _ rfl
    rw [e1, enc_append] at hO
    have HO := Lib.hid (show w2.ownsRow 0 5 1 (.slice (some ⟨gb, 0, none⟩) 5 12) 5 (enc [ds 0, ds 1, ds 2, ds 3, ds 4]) from hO)
    have HL := Lib.hid hL2
    clear hO hL hL2 e1
    have hcv : (convert 66 66 (.slice (some ⟨w2.heap.size, 0, none⟩) 5 5)).run Tryz.prog (w2.alloc (.cells #[.int .u8 48, .int .u8 48, .int .u8 48, .int .u8 48, .int .u8 48] 5)) = .ok (.slice (some ⟨w2.heap.size, 0, none⟩) 5 5) (w2.alloc (.cells #[.int .u8 48, .int .u8 48, .int .u8 48, .int .u8 48, .int .u8 48] 5 (5, 6))) := Lib.run_convert_bytes_const w2 66 5 #[.int .u8 48, .int .u8 48, .int .u8 48, .int .u8 48, .int .u8 48] 5 5 Tryz.underlying66 Tryz.underlying5
    have HOa := Lib.hid (HO.out.alloc (.cells #[.int .u8 48, .int .u8 48, .int .u8 48, .int .u8 48, .int .u8 48] 5 (5, 6)))
    go_wp2_with (at_builtin; refine wpList_append_fits _ rfl (.tmp 69) (.tmp 71) 66 rfl 0 5 i5 1 Tryz.underlying66 HI.out.1 HI.out.2 gb 5 12 (enc [ds 0, ds 1, ds 2, ds 3, ds 4]) rfl HOa.out ⟨w2.heap.size, 0, none⟩ 5 5 [.int .u8 48, .int .u8 48, .int .u8 48, .int .u8 48, .int .u8 48] rfl rfl (fun j v hj => new_marked (t := 5) (W := w2) j v hj) (int_one [48, 48, 48, 48, 48]) (by omega) ?_)
    intro w3 hO hL
    have hL2 := (HL.out.alloc (.cells #[.int .u8 48, .int .u8 48, .int .u8 48, .int .u8 48, .int .u8 48] 5 (5, 6))).ownOne hL (.inr (Nat.le_of_eq hgb))
    have e1 : ([Value.int .u8 48, Value.int .u8 48, Value.int .u8 48, Value.int .u8 48, Value.int .u8 48] : List Value) = enc [0, 0, 0, 0, 0] := rfl
    rw [e1, enc_append] at hO
    have HO := Lib.hid (show w3.ownsRow 0 5 1 (.slice (some ⟨gb, 0, none⟩) 10 12) 10 (enc [ds 0, ds 1, ds 2, ds 3, ds 4, 0, 0, 0, 0, 0]) from hO)
    have HL := Lib.hid hL2
    clear hO hL hL2 e1
    clear HOa hcv
    have HOa := Lib.hid (HO.out.alloc (.cells #[.int .u8 (d[4].toNat : Int)] 5))
    go_wp2_with (at_builtin; refine wpList_append_fits _ rfl (.tmp 73) (.tmp 76) 66 rfl 0 5 i5 1 Tryz.underlying66 HI.out.1 HI.out.2 gb 10 12 (enc [ds 0, ds 1, ds 2, ds 3, ds 4, 0, 0, 0, 0, 0]) rfl HOa.out ⟨w3.heap.size, 0, none⟩ 1 1 [.int .u8 (d[4].toNat : Int)] rfl rfl (fun j v hj => new_cells (t := 5) (W := w3) j v hj) (int_one [(d[4].toNat : Int)]) (by omega) ?_)
    intro w4 hO hL
    have hL2 := (HL.out.alloc (.cells #[.int .u8 (d[4].toNat : Int)] 5)).ownOne hL (.inr (Nat.le_of_eq hgb))
    have e1 : ([Value.int .u8 (d[4].toNat : Int)] : List Value) = enc [ds 5] := by rw [HD4.out]; rfl
    rw [e1, enc_append] at hO
    have HO := Lib.hid (show w4.ownsRow 0 5 1 (.slice (some ⟨gb, 0, none⟩) 11 12) 11 (enc [ds 0, ds 1, ds 2, ds 3, ds 4, 0, 0, 0, 0, 0, ds 5]) from hO)
    have HL := Lib.hid hL2
    clear hO hL hL2 e1
    clear HOa
    have HOa := Lib.hid (HO.out.alloc (.cells #[.int .u8 (s[7].toNat : Int)] 5))
    go_wp2_with (at_builtin; refine wpList_append_fits _ rfl (.tmp 81) (.tmp 84) 66 rfl 0 5 i5 1 Tryz.underlying66 HI.out.1 HI.out.2 gb 11 12 (enc [ds 0, ds 1, ds 2, ds 3, ds 4, 0, 0, 0, 0, 0, ds 5]) rfl HOa.out ⟨w4.heap.size, 0, none⟩ 1 1 [.int .u8 (s[7].toNat : Int)] rfl rfl (fun j v hj => new_cells (t := 5) (W := w4) j v hj) (int_one [(s[7].toNat : Int)]) (by omega) ?_)
    intro w5 hO hL
    have hL2 := (HL.out.alloc (.cells #[.int .u8 (s[7].toNat : Int)] 5)).ownOne hL (.inr (Nat.le_of_eq hgb))
    have e1 : ([Value.int .u8 (s[7].toNat : Int)] : List Value) = enc [ds 7] := by rw [HZ.out.2]; rfl
    rw [e1, enc_append] at hO
    have HO := Lib.hid (show w5.ownsRow 0 5 1 (.slice (some ⟨gb, 0, none⟩) 12 12) 12 (enc [ds 0, ds 1, ds 2, ds 3, ds 4, 0, 0, 0, 0, 0, ds 5, ds 7]) from hO)
    have HL := Lib.hid hL2
    clear hO hL hL2 e1
    clear HOa
    have e1 : enc [ds 0, ds 1, ds 2, ds 3, ds 4, 0, 0, 0, 0, 0, ds 5, ds 7] = bts (wd ds) 12 := bts_wide ds [ds 0, ds 1, ds 2, ds 3, ds 4, 0, 0, 0, 0, 0, ds 5] (wideL_four HC.out).symm
    have hO := HO.out
    rw [e1] at hO
    have htx := run_text gb 12 12 (wd ds) _ hO
    clear hO e1
    go_wp2
    go_ret
    exact ⟨rfl, HL.out⟩
  · have HC := Lib.hid hc
    have t48 : ((d[5].toNat : Int) == 48) = false := by simp; omega
    have t49 : ((d[5].toNat : Int) == 49) = false := by simp; omega
    have t50 : ((d[5].toNat : Int) == 50) = false := by simp; omega
    have t51 : ((d[5].toNat : Int) == 51) = false := by simp; omega
    have t52 : ((d[5].toNat : Int) == 52) = false := by simp; omega
    clear hc hd5'
    go_wp2_with (at_builtin; refine Lib.wpList_append_fits_string _ rfl (.tmp 17) (.tmp 19) 66 9 rfl 0 5 i5 Tryz.underlying66 Tryz.underlying9 HI.out.1 HI.out.2 (some ⟨gb, 0, none⟩) 1 12 (enc [ds 0]) rfl HO.out (d.extract 0 5) rfl (by omega) (by rw [HE.out 0 5 (by omega) (by omega)]; omega) ?_)
    intro w2 hO hL
    have hL2 := (HL.out).ownOne hL (.inr (Nat.le_of_eq hgb))
    have e1 : Lib.strCells (d.extract 0 5) = enc [ds 1, ds 2, ds 3, ds 4, ds 5] := says_cells (HD.out.part 0 5 (by omega) (by omega)) _ rfl
    rw [e1, enc_append] at hO
    have HO := Lib.hid (show w2.ownsRow 0 5 1 (.slice (some ⟨gb, 0, none⟩) 6 12) 6 (enc [ds 0, ds 1, ds 2, ds 3, ds 4, ds 5]) from hO)
    have HL := Lib.hid hL2
    clear hO hL hL2 e1
    have hcv : (convert 66 66 (.slice (some ⟨w2.heap.size, 0, none⟩) 4 4)).run Tryz.prog (w2.alloc (.cells #[.int .u8 48, .int .u8 48, .int .u8 48, .int .u8 48] 5)) = .ok (.slice (some ⟨w2.heap.size, 0, none⟩) 4 4) (w2.alloc (.cells #[.int .u8 48, .int .u8 48, .int .u8 48, .int .u8 48] 5 (4, 5))) := Lib.run_convert_bytes_const w2 66 5 #[.int .u8 48, .int .u8 48, .int .u8 48, .int .u8 48] 4 4 Tryz.underlying66 Tryz.underlying5
    have HOa := Lib.hid (HO.out.alloc (.cells #[.int .u8 48, .int .u8 48, .int .u8 48, .int .u8 48] 5 (4, 5)))
    go_wp2_with (at_builtin; refine wpList_append_fits _ rfl (.tmp 21) (.tmp 23) 66 rfl 0 5 i5 1 Tryz.underlying66 HI.out.1 HI.out.2 gb 6 12 (enc [ds 0, ds 1, ds 2, ds 3, ds 4, ds 5]) rfl HOa.out ⟨w2.heap.size, 0, none⟩ 4 4 [.int .u8 48, .int .u8 48, .int .u8 48, .int .u8 48] rfl rfl (fun j v hj => new_marked (t := 5) (W := w2) j v hj) (int_one [48, 48, 48, 48]) (by omega) ?_)
    intro w3 hO hL
    have hL2 := (HL.out.alloc (.cells #[.int .u8 48, .int .u8 48, .int .u8 48, .int .u8 48] 5 (4, 5))).ownOne hL (.inr (Nat.le_of_eq hgb))
    have e1 : ([Value.int .u8 48, Value.int .u8 48, Value.int .u8 48, Value.int .u8 48] : List Value) = enc [0, 0, 0, 0] := rfl
    rw [e1, enc_append] at hO
    have HO := Lib.hid (show w3.ownsRow 0 5 1 (.slice (some ⟨gb, 0, none⟩) 10 12) 10 (enc [ds 0, ds 1, ds 2, ds 3, ds 4, ds 5, 0, 0, 0, 0]) from hO)
    have HL := Lib.hid hL2
    clear hO hL hL2 e1
    clear HOa hcv
    have HOa := Lib.hid (HO.out.alloc (.cells #[.int .u8 (d[5].toNat : Int)] 5))
    go_wp2_with (at_builtin; refine wpList_append_fits _ rfl (.tmp 25) (.tmp 27) 66 rfl 0 5 i5 1 Tryz.underlying66 HI.out.1 HI.out.2 gb 10 12 (enc [ds 0, ds 1, ds 2, ds 3, ds 4, ds 5, 0, 0, 0, 0]) rfl HOa.out ⟨w3.heap.size, 0, none⟩ 1 1 [.int .u8 (d[5].toNat : Int)] rfl rfl (fun j v hj => new_cells (t := 5) (W := w3) j v hj) (int_one [(d[5].toNat : Int)]) (by omega) ?_)
    intro w4 hO hL
    have hL2 := (HL.out.alloc (.cells #[.int .u8 (d[5].toNat : Int)] 5)).ownOne hL (.inr (Nat.le_of_eq hgb))
    have e1 : ([Value.int .u8 (d[5].toNat : Int)] : List Value) = enc [ds 6] := by rw [HD5.out]; rfl
    rw [e1, enc_append] at hO
    have HO := Lib.hid (show w4.ownsRow 0 5 1 (.slice (some ⟨gb, 0, none⟩) 11 12) 11 (enc [ds 0, ds 1, ds 2, ds 3, ds 4, ds 5, 0, 0, 0, 0, ds 6]) from hO)
    have HL := Lib.hid hL2
    clear hO hL hL2 e1
    clear HOa
    have HOa := Lib.hid (HO.out.alloc (.cells #[.int .u8 (s[7].toNat : Int)] 5))
    go_wp2_with (at_builtin; refine wpList_append_fits _ rfl (.tmp 81) (.tmp 84) 66 rfl 0 5 i5 1 Tryz.underlying66 HI.out.1 HI.out.2 gb 11 12 (enc [ds 0, ds 1, ds 2, ds 3, ds 4, ds 5, 0, 0, 0, 0, ds 6]) rfl HOa.out ⟨w4.heap.size, 0, none⟩ 1 1 [.int .u8 (s[7].toNat : Int)] rfl rfl (fun j v hj => new_cells (t := 5) (W := w4) j v hj) (int_one [(s[7].toNat : Int)]) (by omega) ?_)
    intro w5 hO hL
    have hL2 := (HL.out.alloc (.cells #[.int .u8 (s[7].toNat : Int)] 5)).ownOne hL (.inr (Nat.le_of_eq hgb))
    have e1 : ([Value.int .u8 (s[7].toNat : Int)] : List Value) = enc [ds 7] := by rw [HZ.out.2]; rfl
    rw [e1, enc_append] at hO
    have HO := Lib.hid (show w5.ownsRow 0 5 1 (.slice (some ⟨gb, 0, none⟩) 12 12) 12 (enc [ds 0, ds 1, ds 2, ds 3, ds 4, ds 5, 0, 0, 0, 0, ds 6, ds 7]) from hO)
    have HL := Lib.hid hL2
    clear hO hL hL2 e1
    clear HOa
    have e1 : enc [ds 0, ds 1, ds 2, ds 3, ds 4, ds 5, 0, 0, 0, 0, ds 6, ds 7] = bts (wd ds) 12 := bts_wide ds [ds 0, ds 1, ds 2, ds 3, ds 4, ds 5, 0, 0, 0, 0, ds 6] (wideL_high HC.out).symm
    have hO := HO.out
    rw [e1] at hO
    have htx := run_text gb 12 12 (wd ds) _ hO
    clear hO e1
    go_wp2
    go_ret
    exact ⟨rfl, HL.out⟩
end Go.Proofs.YtojngchcghabiaaGreatDoor
