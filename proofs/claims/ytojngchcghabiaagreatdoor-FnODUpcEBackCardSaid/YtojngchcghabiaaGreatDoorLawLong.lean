/- Plain: the placed row of an EAN-13 symbol. -/
import Derived.Test.YtojngchcghabiaaGreatDoorLawEight
import Derived.Test.YtojngchcghabiaaGreatDoorReadLong
import Derived.Test.YtojngchcghabiaaGreatDoorWriteLong
namespace Go.Proofs.YtojngchcghabiaaGreatDoor
open Go Go.RowKit

/-- The pieces of an EAN-13 row. -/
def segs13 (l r b : Nat) (ds : Nat → Nat) : List (List Nat) :=
  [[l], [b, b, b], wid b (pz ds 0), wid b (pz ds 1), wid b (pz ds 2), wid b (pz ds 3), wid b (pz ds 4), wid b (pz ds 5), [b, b, b, b, b], wid b (ds 7), wid b (ds 8), wid b (ds 9), wid b (ds 10), wid b (ds 11), wid b (ds 12), [b, b, b], [r]]

theorem sym13_map (b : Nat) (ds : Nat → Nat) : (sym13 ds).map (b * ·) = [b, b, b] ++ (wid b (pz ds 0) ++ (wid b (pz ds 1) ++ (wid b (pz ds 2) ++ (wid b (pz ds 3) ++ (wid b (pz ds 4) ++ (wid b (pz ds 5) ++ ([b, b, b, b, b] ++ (wid b (ds 7) ++ (wid b (ds 8) ++ (wid b (ds 9) ++ (wid b (ds 10) ++ (wid b (ds 11) ++ (wid b (ds 12) ++ [b, b, b]))))))))))))) := by
  have h : ∀ (es : Nat → Nat) a, digs es a 6 = wid 1 (es a) ++ (wid 1 (es (a + 1)) ++ (wid 1 (es (a + 2)) ++ (wid 1 (es (a + 3)) ++ (wid 1 (es (a + 4)) ++ wid 1 (es (a + 5)))))) := by
    intro es a
    simp only [digs_succ, digs_zero, List.nil_append, Nat.add_zero, List.append_assoc]
  unfold sym13
  rw [h (pz ds) 0, h ds 7]
  simp only [List.map_append, wid_map, List.append_assoc]
  simp

theorem placed13 (l r b : Nat) (ds : Nat → Nat) (hd : ∀ i, ds i < 10) : List.replicate l false ++ stretch b (bars true (sym13 ds)) ++ List.replicate r false = bars false (segs13 l r b ds).flatten := by
  have hw : ∀ i, (wid b (ds i)).length = 4 := fun i => wid_length b _ (by have := hd i; omega)
  have hv : ∀ i, (wid b (pz ds i)).length = 4 := fun i => wid_length b _ (pz_lt ds hd i)
  rw [stretch_bars, sym13_map]
  have e : (segs13 l r b ds).flatten = [l] ++ (([b, b, b] ++ (wid b (pz ds 0) ++ (wid b (pz ds 1) ++ (wid b (pz ds 2) ++ (wid b (pz ds 3) ++ (wid b (pz ds 4) ++ (wid b (pz ds 5) ++ ([b, b, b, b, b] ++ (wid b (ds 7) ++ (wid b (ds 8) ++ (wid b (ds 9) ++ (wid b (ds 10) ++ (wid b (ds 11) ++ (wid b (ds 12) ++ [b, b, b])))))))))))))) ++ [r]) := by
    simp [segs13]
  rw [e]
  generalize hM : [b, b, b] ++ _ = M
  have hl : M.length = 59 := by rw [← hM]; simp [hw, hv]
  rw [bars_append false [l], bars_append _ M [r], hl]
  simp [bars, hue]

theorem sum_flat (segs : List (List Nat)) (k : Nat) : (segs.take k).flatten.sum = ((segs.map List.sum).take k).sum := by
  rw [← List.map_take]
  induction segs.take k with
  | nil => rfl
  | cons a r ih => simp [ih]
theorem len_flat (segs : List (List Nat)) (k : Nat) : (segs.take k).flatten.length = ((segs.map List.length).take k).sum := by
  rw [← List.map_take]
  induction segs.take k with
  | nil => rfl
  | cons a r ih => simp [ih]
theorem flat_ne (segs : List (List Nat)) (k : Nat) (x : Nat) (hl : segs.getLast? = some [x]) (hk : k < segs.length) : (segs.drop k).flatten ≠ [] := by
  intro h
  have hm : [x] ∈ segs.drop k := by
    have : (segs.drop k).getLast? = some [x] := by rw [List.getLast?_drop, if_neg (by omega)]; exact hl
    exact List.mem_of_getLast? this
  have : x ∈ (segs.drop k).flatten := List.mem_flatten.2 ⟨[x], hm, by simp⟩
  rw [h] at this
  cases this

set_option maxHeartbeats 16000000 in
/-- The placed row of an EAN-13 symbol is one that the reader's walk knows. -/
theorem sym13_of (l r b : Nat) (ds : Nat → Nat) (hd : ∀ i, ds i < 10) (hc : ds 12 = chd ds 12) (hb : 0 < b) (hb4 : b ≤ 4) (hl : 10 * b ≤ l) (hl2 : l ≤ 120) (hr : 10 * b ≤ r) (hr2 : r ≤ 120) :
    Sym13 (List.replicate l false ++ stretch b (bars true (sym13 ds)) ++ List.replicate r false) b l ds (pz ds) := by
  have hw : ∀ i, (wid b (ds i)).length = 4 := fun i => wid_length b _ (by have := hd i; omega)
  have hv : ∀ i, (wid b (pz ds i)).length = 4 := fun i => wid_length b _ (pz_lt ds hd i)
  have hsum : ∀ i, (wid b (ds i)).sum = 7 * b := fun i => wid_sum b _ (by have := hd i; omega)
  have hsuv : ∀ i, (wid b (pz ds i)).sum = 7 * b := fun i => wid_sum b _ (pz_lt ds hd i)
  have hpov : ∀ i, ∀ n ∈ wid b (pz ds i), 0 < n := fun i => wid_pos b _ (pz_lt ds hd i) hb
  have hpos : ∀ i, ∀ n ∈ wid b (ds i), 0 < n := fun i => wid_pos b _ (by have := hd i; omega) hb
  have hall : ∀ n ∈ (segs13 l r b ds).flatten, 0 < n := by
    intro n hn
    obtain ⟨x, hx, hnx⟩ := List.mem_flatten.1 hn
    simp only [segs13, List.mem_cons, List.not_mem_nil, or_false] at hx
    rcases hx with rfl | rfl | rfl | rfl | rfl | rfl | rfl | rfl | rfl | rfl | rfl | rfl | rfl | rfl | rfl | rfl | rfl
    all_goals first
      | exact hpos _ _ hnx
      | exact hpov _ _ hnx
      | (simp only [List.mem_cons, List.not_mem_nil, or_false] at hnx; omega)
  have hlen : (stretch b (bars true (sym13 ds))).length = 95 * b := by
    rw [stretch_length, bars_length]
    have h20 : ∀ i, ds i < 20 := fun i => by have := hd i; omega
    have : (sym13 ds).sum = 95 := by
      unfold sym13
      simp only [List.sum_append, digs_sum (pz ds) 0 (pz_lt ds hd), digs_sum ds 7 h20]
      rfl
    rw [this, Nat.mul_comm]
  have hP := placed13 l r b ds hd
  have hS : (segs13 l r b ds).map List.sum = [l, 3 * b, 7 * b, 7 * b, 7 * b, 7 * b, 7 * b, 7 * b, 5 * b, 7 * b, 7 * b, 7 * b, 7 * b, 7 * b, 7 * b, 3 * b, r] := by
    simp only [segs13, List.map_cons, List.map_nil, hsum, hsuv, List.sum_cons, List.sum_nil]
    congr 1
    · congr 1
      · omega
      · congr 7
        · omega
        · congr 6
          congr 1
          omega
  have hN : (segs13 l r b ds).map List.length = [1, 3, 4, 4, 4, 4, 4, 4, 5, 4, 4, 4, 4, 4, 4, 3, 1] := by
    simp only [segs13, List.map_cons, List.map_nil, hw, hv, List.length_cons, List.length_nil]
  have hlast : (segs13 l r b ds).getLast? = some [r] := rfl
  have seg : ∀ k s c cs, (segs13 l r b ds).getD k [] = cs → k + 1 < 17 → ([l, 3 * b, 7 * b, 7 * b, 7 * b, 7 * b, 7 * b, 7 * b, 5 * b, 7 * b, 7 * b, 7 * b, 7 * b, 7 * b, 7 * b, 3 * b, r].take k).sum = s → hue false (([1, 3, 4, 4, 4, 4, 4, 4, 5, 4, 4, 4, 4, 4, 4, 3, 1].take k).sum) = c → RunsAt (bars false (segs13 l r b ds).flatten) s c cs := fun k s c cs hk hkl hs hc =>
    runsAt_seg (segs13 l r b ds) k s c cs hk (by show k < 17; omega) hall (flat_ne _ _ r hlast (by show k + 1 < 17; omega)) (by rw [sum_flat, hS]; exact hs) (by rw [len_flat, hN]; exact hc)
  rw [← hP] at seg
  have hsz : (List.replicate l false ++ stretch b (bars true (sym13 ds)) ++ List.replicate r false).length = l + 95 * b + r := by
    rw [List.length_append, List.length_append, List.length_replicate, List.length_replicate, hlen]
  refine ⟨hb, hb4, hd, fun x _ => ⟨pz_lt ds hd x, pz_mod ds hd x⟩, pz_mask ds hd, by omega, ?_, ?_, ?_, ?_, ?_, ?_, by rw [hsz]; omega, by rw [hsz]; omega, ?_, hc⟩
  · intro i hi
    rw [List.getD_eq_getElem?_getD, List.append_assoc, List.getElem?_append_left (by simpa using hi), List.getElem?_replicate, if_pos hi]
    rfl
  · exact seg 1 _ _ _ rfl (by omega) (by simp) rfl
  · intro x hx
    rcases (show x = 0 ∨ x = 1 ∨ x = 2 ∨ x = 3 ∨ x = 4 ∨ x = 5 by omega) with rfl | rfl | rfl | rfl | rfl | rfl
    · exact seg 2 _ _ _ rfl (by omega) (by simp [offs]) rfl
    · exact seg 3 _ _ _ rfl (by omega) (by simp [offs]; omega) rfl
    · exact seg 4 _ _ _ rfl (by omega) (by simp [offs]; omega) rfl
    · exact seg 5 _ _ _ rfl (by omega) (by simp [offs]; omega) rfl
    · exact seg 6 _ _ _ rfl (by omega) (by simp [offs]; omega) rfl
    · exact seg 7 _ _ _ rfl (by omega) (by simp [offs]; omega) rfl
  · exact seg 8 _ _ _ rfl (by omega) (by simp; omega) rfl
  · intro x hx
    rcases (show x = 0 ∨ x = 1 ∨ x = 2 ∨ x = 3 ∨ x = 4 ∨ x = 5 by omega) with rfl | rfl | rfl | rfl | rfl | rfl
    · exact seg 9 _ _ _ rfl (by omega) (by simp [offs]; omega) rfl
    · exact seg 10 _ _ _ rfl (by omega) (by simp [offs]; omega) rfl
    · exact seg 11 _ _ _ rfl (by omega) (by simp [offs]; omega) rfl
    · exact seg 12 _ _ _ rfl (by omega) (by simp [offs]; omega) rfl
    · exact seg 13 _ _ _ rfl (by omega) (by simp [offs]; omega) rfl
    · exact seg 14 _ _ _ rfl (by omega) (by simp [offs]; omega) rfl
  · exact seg 15 _ _ _ rfl (by omega) (by simp; omega) rfl
  · intro i hi
    rw [List.getD_eq_getElem?_getD, List.getElem?_append_right (by rw [List.length_append, List.length_replicate, hlen]; omega), List.getElem?_replicate]
    split <;> rfl
end Go.Proofs.YtojngchcghabiaaGreatDoor
