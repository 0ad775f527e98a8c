/- Plain: the placed row of an EAN-8 symbol. -/
import Derived.Test.YtojngchcghabiaaGreatDoorPlaced
import Derived.Test.YtojngchcghabiaaGreatDoorReadEight
namespace Go.Proofs.YtojngchcghabiaaGreatDoor
open Go Go.RowKit

theorem stretch_rep (b n : Nat) (c : Bool) : stretch b (List.replicate n c) = List.replicate (b * n) c := by
  induction n with
  | zero => simp [stretch]
  | succ n ih => rw [List.replicate_succ, show stretch b (c :: List.replicate n c) = List.replicate b c ++ stretch b (List.replicate n c) from rfl, ih, List.replicate_append_replicate, Nat.mul_succ, Nat.add_comm]
theorem stretch_bars (b : Nat) (ns : List Nat) (c : Bool) : stretch b (bars c ns) = bars c (ns.map (b * ·)) := by
  induction ns generalizing c with
  | nil => rfl
  | cons n ns ih => rw [bars, stretch_append, ih, stretch_rep]; rfl

theorem runsAt_of (full pre cs post : List Nat) (s : Nat) (c : Bool) (hf : full = pre ++ (cs ++ post)) (hall : ∀ n ∈ full, 0 < n) (hne : post ≠ []) (hs : pre.sum = s) (hc : hue false pre.length = c) : RunsAt (bars false full) s c cs := by
  subst hf hs hc
  obtain ⟨n, ps, rfl⟩ : ∃ n ps, post = n :: ps := by
    cases post with
    | nil => exact absurd rfl hne
    | cons n ps => exact ⟨n, ps, rfl⟩
  have hn : 0 < n := hall n (by simp)
  have e : bars false (pre ++ (cs ++ n :: ps)) = bars false pre ++ (bars (hue false pre.length) cs ++ bars (hue (hue false pre.length) cs.length) (n :: ps)) := by rw [bars_append, bars_append]
  refine ⟨by rw [bars_length]; simp; omega, fun t ht => ?_⟩
  rw [List.getD_eq_getElem?_getD, e, List.getElem?_append_right (by rw [bars_length]; omega), bars_length, Nat.add_sub_cancel_left]
  rcases Nat.lt_or_ge t cs.sum with h | h
  · rw [List.getElem?_append_left (by rw [bars_length]; exact h), bars_get _ _ _ h]
    rfl
  · have : t = cs.sum := by omega
    subst this
    rw [List.getElem?_append_right (by rw [bars_length]; omega), bars_length, Nat.sub_self, idx_sum]
    simp [bars, List.getElem?_append, hn]

/-- One of the pieces that a row is made of. -/
theorem runsAt_seg (segs : List (List Nat)) (k s : Nat) (c : Bool) (cs : List Nat) (hk : segs.getD k [] = cs) (hkl : k < segs.length) (hall : ∀ n ∈ segs.flatten, 0 < n) (hne : (segs.drop (k + 1)).flatten ≠ []) (hs : (segs.take k).flatten.sum = s) (hc : hue false (segs.take k).flatten.length = c) : RunsAt (bars false segs.flatten) s c cs := by
  refine runsAt_of _ (segs.take k).flatten cs (segs.drop (k + 1)).flatten s c ?_ hall hne hs hc
  have h1 := List.take_append_drop k segs
  have h2 : segs.drop k = cs :: segs.drop (k + 1) := by
    rw [List.drop_eq_getElem_cons hkl, ← hk]
    simp [hkl]
  conv => lhs; rw [← h1, h2]
  simp

theorem wid_map (b d : Nat) : (wid 1 d).map (b * ·) = wid b d := by simp [wid]
/-- The pieces of an EAN-8 row. -/
def segs8 (l r b : Nat) (ds : Nat → Nat) : List (List Nat) :=
  [[l], [b, b, b], wid b (ds 0), wid b (ds 1), wid b (ds 2), wid b (ds 3), [b, b, b, b, b], wid b (ds 4), wid b (ds 5), wid b (ds 6), wid b (ds 7), [b, b, b], [r]]

theorem sym8_map (b : Nat) (ds : Nat → Nat) : (sym8 ds).map (b * ·) = [b, b, b] ++ (wid b (ds 0) ++ (wid b (ds 1) ++ (wid b (ds 2) ++ (wid b (ds 3) ++ ([b, b, b, b, b] ++ (wid b (ds 4) ++ (wid b (ds 5) ++ (wid b (ds 6) ++ (wid b (ds 7) ++ [b, b, b]))))))))) := by
  have h : ∀ a, digs ds a 4 = wid 1 (ds a) ++ (wid 1 (ds (a + 1)) ++ (wid 1 (ds (a + 2)) ++ wid 1 (ds (a + 3)))) := by
    intro a
    simp only [digs_succ, digs_zero, List.nil_append, Nat.add_zero, List.append_assoc]
  unfold sym8
  rw [h 0, h 4]
  simp only [List.map_append, wid_map, List.append_assoc]
  simp

theorem placed8 (l r b : Nat) (ds : Nat → Nat) (hd : ∀ i, ds i < 10) : List.replicate l false ++ stretch b (bars true (sym8 ds)) ++ List.replicate r false = bars false (segs8 l r b ds).flatten := by
  have hw : ∀ i, (wid b (ds i)).length = 4 := fun i => wid_length b _ (by have := hd i; omega)
  rw [stretch_bars, sym8_map]
  have e : (segs8 l r b ds).flatten = [l] ++ (([b, b, b] ++ (wid b (ds 0) ++ (wid b (ds 1) ++ (wid b (ds 2) ++ (wid b (ds 3) ++ ([b, b, b, b, b] ++ (wid b (ds 4) ++ (wid b (ds 5) ++ (wid b (ds 6) ++ (wid b (ds 7) ++ [b, b, b])))))))))) ++ [r]) := by
    simp [segs8]
  rw [e]
  generalize hM : [b, b, b] ++ _ = M
  have hl : M.length = 43 := by rw [← hM]; simp [hw]
  rw [bars_append false [l], bars_append _ M [r], hl]
  simp [bars, hue]

set_option maxHeartbeats 4000000 in
/-- The placed row of an EAN-8 symbol is one that the reader's walk knows. -/
theorem sym8_of (l r b : Nat) (ds : Nat → Nat) (hd : ∀ i, ds i < 10) (hc : ds 7 = chd ds 7) (hb : 0 < b) (hb4 : b ≤ 4) (hl : 10 * b ≤ l) (hl2 : l ≤ 120) (hr : 10 * b ≤ r) (hr2 : r ≤ 120) :
    Sym8 (List.replicate l false ++ stretch b (bars true (sym8 ds)) ++ List.replicate r false) b l ds := by
  have hw : ∀ i, (wid b (ds i)).length = 4 := fun i => wid_length b _ (by have := hd i; omega)
  have hsum : ∀ i, (wid b (ds i)).sum = 7 * b := fun i => wid_sum b _ (by have := hd i; omega)
  have hpos : ∀ i, ∀ n ∈ wid b (ds i), 0 < n := fun i => wid_pos b _ (by have := hd i; omega) hb
  have hall : ∀ n ∈ (segs8 l r b ds).flatten, 0 < n := by
    intro n hn
    obtain ⟨x, hx, hnx⟩ := List.mem_flatten.1 hn
    simp only [segs8, List.mem_cons, List.not_mem_nil, or_false] at hx
    rcases hx with rfl | rfl | rfl | rfl | rfl | rfl | rfl | rfl | rfl | rfl | rfl | rfl | rfl
    all_goals first
      | exact hpos _ _ hnx
      | (simp only [List.mem_cons, List.not_mem_nil, or_false] at hnx; omega)
  have hlen : (stretch b (bars true (sym8 ds))).length = 67 * b := by
    rw [stretch_length, bars_length]
    have h20 : ∀ i, ds i < 20 := fun i => by have := hd i; omega
    have : (sym8 ds).sum = 67 := by
      unfold sym8
      simp only [List.sum_append, digs_sum ds 0 h20, digs_sum ds 4 h20]
      rfl
    rw [this, Nat.mul_comm]
  have hP := placed8 l r b ds hd
  have seg := fun k s c cs hk hkl hne hs hc => runsAt_seg (segs8 l r b ds) k s c cs hk hkl hall hne hs hc
  rw [← hP] at seg
  have hsz : (List.replicate l false ++ stretch b (bars true (sym8 ds)) ++ List.replicate r false).length = l + 67 * b + r := by
    rw [List.length_append, List.length_append, List.length_replicate, List.length_replicate, hlen]
  refine ⟨hb, hb4, hd, by omega, ?_, ?_, ?_, ?_, ?_, ?_, by rw [hsz]; omega, by rw [hsz]; omega, ?_, hc⟩
  · intro i hi
    rw [List.getD_eq_getElem?_getD, List.append_assoc, List.getElem?_append_left (by simpa using hi), List.getElem?_replicate, if_pos hi]
    rfl
  · refine seg 1 _ _ _ rfl (by simp [segs8]) (by simp [segs8]) (by simp [segs8]) (by simp [segs8, hue])
  · intro x hx
    rcases (show x = 0 ∨ x = 1 ∨ x = 2 ∨ x = 3 by omega) with rfl | rfl | rfl | rfl
    · refine seg 2 _ _ _ rfl (by simp [segs8]) (by simp [segs8]) (by simp [segs8, offs]; omega) (by simp [segs8, hue])
    · refine seg 3 _ _ _ rfl (by simp [segs8]) (by simp [segs8]) (by simp [segs8, offs, hsum]; omega) (by simp [segs8, hue, hw])
    · refine seg 4 _ _ _ rfl (by simp [segs8]) (by simp [segs8]) (by simp [segs8, offs, hsum]; omega) (by simp [segs8, hue, hw])
    · refine seg 5 _ _ _ rfl (by simp [segs8]) (by simp [segs8]) (by simp [segs8, offs, hsum]; omega) (by simp [segs8, hue, hw])
  · refine seg 6 _ _ _ rfl (by simp [segs8]) (by simp [segs8]) (by simp [segs8, hsum]; omega) (by simp [segs8, hue, hw])
  · intro x hx
    rcases (show x = 0 ∨ x = 1 ∨ x = 2 ∨ x = 3 by omega) with rfl | rfl | rfl | rfl
    · refine seg 7 _ _ _ rfl (by simp [segs8]) (by simp [segs8]) (by simp [segs8, offs, hsum]; omega) (by simp [segs8, hue, hw])
    · refine seg 8 _ _ _ rfl (by simp [segs8]) (by simp [segs8]) (by simp [segs8, offs, hsum]; omega) (by simp [segs8, hue, hw])
    · refine seg 9 _ _ _ rfl (by simp [segs8]) (by simp [segs8]) (by simp [segs8, offs, hsum]; omega) (by simp [segs8, hue, hw])
    · refine seg 10 _ _ _ rfl (by simp [segs8]) (by simp [segs8]) (by simp [segs8, offs, hsum]; omega) (by simp [segs8, hue, hw])
  · refine seg 11 _ _ _ rfl (by simp [segs8]) (by simp [segs8]) (by simp [segs8, hsum]; omega) (by simp [segs8, hue, hw])
  · intro i hi
    rw [List.getD_eq_getElem?_getD, List.getElem?_append_right (by rw [List.length_append, List.length_replicate, hlen]; omega), List.getElem?_replicate]
    split <;> rfl
end Go.Proofs.YtojngchcghabiaaGreatDoor
