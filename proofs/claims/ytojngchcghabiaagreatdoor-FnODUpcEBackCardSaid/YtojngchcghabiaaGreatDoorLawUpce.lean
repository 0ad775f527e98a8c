/- Plain: the placed row of a UPC-E symbol. -/
import Derived.Test.YtojngchcghabiaaGreatDoorLawLong
import Derived.Test.YtojngchcghabiaaGreatDoorReadUpce
namespace Go.Proofs.YtojngchcghabiaaGreatDoor
open Go Go.RowKit

/-- The pieces of a UPC-E row. -/
def segsE (l r b : Nat) (ds : Nat → Nat) : List (List Nat) :=
  [[l], [b, b, b], wid b (pe ds 0), wid b (pe ds 1), wid b (pe ds 2), wid b (pe ds 3), wid b (pe ds 4), wid b (pe ds 5), [b, b, b, b, b, b], [r]]

theorem symE_map (b : Nat) (ds : Nat → Nat) : (symE ds).map (b * ·) = [b, b, b] ++ (wid b (pe ds 0) ++ (wid b (pe ds 1) ++ (wid b (pe ds 2) ++ (wid b (pe ds 3) ++ (wid b (pe ds 4) ++ (wid b (pe ds 5) ++ [b, b, b, b, b, b])))))) := by
  have h : ∀ (es : Nat → Nat) a, digs es a 6 = wid 1 (es a) ++ (wid 1 (es (a + 1)) ++ (wid 1 (es (a + 2)) ++ (wid 1 (es (a + 3)) ++ (wid 1 (es (a + 4)) ++ wid 1 (es (a + 5)))))) := by
    intro es a
    simp only [digs_succ, digs_zero, List.nil_append, Nat.add_zero, List.append_assoc]
  unfold symE
  rw [h (pe ds) 0]
  simp only [List.map_append, wid_map, List.append_assoc]
  simp

theorem placedE (l r b : Nat) (ds : Nat → Nat) (hd : ∀ i, ds i < 10) : List.replicate l false ++ stretch b (bars true (symE ds)) ++ List.replicate r false = bars false (segsE l r b ds).flatten := by
  have hv : ∀ i, (wid b (pe ds i)).length = 4 := fun i => wid_length b _ (pe_lt ds hd i)
  rw [stretch_bars, symE_map]
  have e : (segsE l r b ds).flatten = [l] ++ (([b, b, b] ++ (wid b (pe ds 0) ++ (wid b (pe ds 1) ++ (wid b (pe ds 2) ++ (wid b (pe ds 3) ++ (wid b (pe ds 4) ++ (wid b (pe ds 5) ++ [b, b, b, b, b, b]))))))) ++ [r]) := by
    simp [segsE]
  rw [e]
  generalize hM : [b, b, b] ++ _ = M
  have hl : M.length = 33 := by rw [← hM]; simp [hv]
  rw [bars_append false [l], bars_append _ M [r], hl]
  simp [bars, hue]

set_option maxHeartbeats 16000000 in
/-- The placed row of a UPC-E symbol is one that the reader's walk knows. -/
theorem symE_of (l r b : Nat) (ds : Nat → Nat) (hd : ∀ i, ds i < 10) (h2 : ds 0 < 2) (hc : ds 7 = chd (wd ds) 11) (hb : 0 < b) (hb4 : b ≤ 4) (hl : 10 * b ≤ l) (hl2 : l ≤ 120) (hr : 10 * b ≤ r) (hr2 : r ≤ 120) :
    SymE (List.replicate l false ++ stretch b (bars true (symE ds)) ++ List.replicate r false) b l ds (pe ds) := by
  have hv : ∀ i, (wid b (pe ds i)).length = 4 := fun i => wid_length b _ (pe_lt ds hd i)
  have hsuv : ∀ i, (wid b (pe ds i)).sum = 7 * b := fun i => wid_sum b _ (pe_lt ds hd i)
  have hpov : ∀ i, ∀ n ∈ wid b (pe ds i), 0 < n := fun i => wid_pos b _ (pe_lt ds hd i) hb
  have hall : ∀ n ∈ (segsE l r b ds).flatten, 0 < n := by
    intro n hn
    obtain ⟨x, hx, hnx⟩ := List.mem_flatten.1 hn
    simp only [segsE, List.mem_cons, List.not_mem_nil, or_false] at hx
    rcases hx with rfl | rfl | rfl | rfl | rfl | rfl | rfl | rfl | rfl | rfl
    all_goals first
      | exact hpov _ _ hnx
      | (simp only [List.mem_cons, List.not_mem_nil, or_false] at hnx; omega)
  have hlen : (stretch b (bars true (symE ds))).length = 51 * b := by
    rw [stretch_length, bars_length]
    have : (symE ds).sum = 51 := by
      unfold symE
      simp only [List.sum_append, digs_sum (pe ds) 0 (pe_lt ds hd)]
      rfl
    rw [this, Nat.mul_comm]
  have hP := placedE l r b ds hd
  have hS : (segsE l r b ds).map List.sum = [l, 3 * b, 7 * b, 7 * b, 7 * b, 7 * b, 7 * b, 7 * b, 6 * b, r] := by
    simp only [segsE, List.map_cons, List.map_nil, hsuv, List.sum_cons, List.sum_nil]
    congr 1
    · congr 1
      · omega
      · congr 7
        omega
  have hN : (segsE l r b ds).map List.length = [1, 3, 4, 4, 4, 4, 4, 4, 6, 1] := by
    simp only [segsE, List.map_cons, List.map_nil, hv, List.length_cons, List.length_nil]
  have hlast : (segsE l r b ds).getLast? = some [r] := rfl
  have seg : ∀ k s c cs, (segsE l r b ds).getD k [] = cs → k + 1 < 10 → ([l, 3 * b, 7 * b, 7 * b, 7 * b, 7 * b, 7 * b, 7 * b, 6 * b, r].take k).sum = s → hue false (([1, 3, 4, 4, 4, 4, 4, 4, 6, 1].take k).sum) = c → RunsAt (bars false (segsE l r b ds).flatten) s c cs := fun k s c cs hk hkl hs hc =>
    runsAt_seg (segsE l r b ds) k s c cs hk (by show k < 10; omega) hall (flat_ne _ _ r hlast (by show k + 1 < 10; omega)) (by rw [sum_flat, hS]; exact hs) (by rw [len_flat, hN]; exact hc)
  rw [← hP] at seg
  have hsz : (List.replicate l false ++ stretch b (bars true (symE ds)) ++ List.replicate r false).length = l + 51 * b + r := by
    rw [List.length_append, List.length_append, List.length_replicate, List.length_replicate, hlen]
  refine ⟨hb, hb4, hd, fun x _ => ⟨pe_lt ds hd x, pe_mod ds hd x⟩, h2, pe_mask ds hd h2, by omega, ?_, ?_, ?_, ?_, by rw [hsz]; omega, by rw [hsz]; omega, ?_, hc⟩
  · intro i hi
    rw [List.getD_eq_getElem?_getD, List.append_assoc, List.getElem?_append_left (by simpa using hi), List.getElem?_replicate, if_pos hi]
    rfl
  · exact seg 1 _ _ _ rfl (by omega) (by simp) rfl
  · intro x hx
    rcases (show x = 0 ∨ x = 1 ∨ x = 2 ∨ x = 3 ∨ x = 4 ∨ x = 5 by omega) with rfl | rfl | rfl | rfl | rfl | rfl
    · exact seg 2 _ _ _ rfl (by omega) (by simp [offs]) rfl
    · exact seg 3 _ _ _ rfl (by omega) (by simp [offs]; omega) rfl
    · exact seg 4 _ _ _ rfl (by omega) (by simp [offs]; omega) rfl
    · exact seg 5 _ _ _ rfl (by omega) (by simp [offs]; omega) rfl
    · exact seg 6 _ _ _ rfl (by omega) (by simp [offs]; omega) rfl
    · exact seg 7 _ _ _ rfl (by omega) (by simp [offs]; omega) rfl
  · exact seg 8 _ _ _ rfl (by omega) (by simp; omega) rfl
  · intro i hi
    rw [List.getD_eq_getElem?_getD, List.getElem?_append_right (by rw [List.length_append, List.length_replicate, hlen]; omega), List.getElem?_replicate]
    split <;> rfl
end Go.Proofs.YtojngchcghabiaaGreatDoor
