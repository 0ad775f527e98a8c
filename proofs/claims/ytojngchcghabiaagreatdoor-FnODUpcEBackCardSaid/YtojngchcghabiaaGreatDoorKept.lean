/-
  What a call leaves of what was there, but for some named blocks; a digit of either table as the reader chooses it.
-/
import Derived.Test.YtojngchcghabiaaGreatDoorLgTable
namespace Go.Proofs.YtojngchcghabiaaGreatDoor
open Go Go.RowKit

structure Kept (S : List Nat) (w w' : World) : Prop where
  os : w'.os = w.os
  tape : w'.tape = w.tape
  output : w'.output = w.output
  size : w.heap.size ≤ w'.heap.size
  block : ∀ k, k < w.heap.size → k ∉ S → w'.heap[k]? = w.heap[k]?

section
variable {S : List Nat} {w w' w'' : World} {row : Option Nat}
theorem Kept.refl (S : List Nat) (w : World) : Kept S w w := ⟨rfl, rfl, rfl, Nat.le_refl _, fun _ _ _ => rfl⟩
theorem Kept.step (h : Kept S w w') (k : Left' row w' w'') (hr : ∀ g, row = some g → g ∈ S ∨ w.heap.size ≤ g) : Kept S w w'' :=
  ⟨k.os.trans h.os, k.tape.trans h.tape, k.output.trans h.output, Nat.le_trans h.size k.size, fun i hi hn => (k.block i (Nat.lt_of_lt_of_le hi h.size) (fun e => by
    rcases hr i e.symm with h1 | h1
    · exact hn h1
    · omega)).trans (h.block i hi hn)⟩
theorem Kept.none (h : Kept S w w') (k : Left' none w' w'') : Kept S w w'' := h.step k (by simp)
theorem Kept.one {g : Nat} (h : Kept S w w') (k : Left' (some g) w' w'') (hg : g ∈ S ∨ w.heap.size ≤ g) : Kept S w w'' :=
  h.step k fun g' e => by
    have : g = g' := by simpa using e
    subst this; exact hg
theorem Kept.trans (h : Kept S w w') (k : Kept S w' w'') : Kept S w w'' :=
  ⟨k.os.trans h.os, k.tape.trans h.tape, k.output.trans h.output, Nat.le_trans h.size k.size, fun i hi hn => (k.block i (Nat.lt_of_lt_of_le hi h.size) hn).trans (h.block i hi hn)⟩
/-- A call that may have changed other blocks, each of them of the caller's own or named. -/
theorem Kept.own {S' : List Nat} (h : Kept S w w') (k : Kept S' w' w'') (hs : ∀ g, g ∈ S' → g ∈ S ∨ w.heap.size ≤ g) : Kept S w w'' :=
  ⟨k.os.trans h.os, k.tape.trans h.tape, k.output.trans h.output, Nat.le_trans h.size k.size, fun i hi hn => (k.block i (Nat.lt_of_lt_of_le hi h.size) (fun e => by
    rcases hs i e with h1 | h1
    · exact hn h1
    · omega)).trans (h.block i hi hn)⟩
theorem Kept.drew (h : Kept S w w') : Kept S w w'.drew := ⟨h.os, h.tape, h.output, h.size, h.block⟩
theorem Kept.alloc (h : Kept S w w') (o : Obj) : Kept S w (w'.alloc o) := h.none ((Left'.refl w' Option.none).alloc o)
theorem Kept.setCell (h : Kept S w w') {p : Addr} (hp : p.block ∈ S ∨ w.heap.size ≤ p.block) (u : Value) : Kept S w (w'.setCell p u) :=
  h.one ((Left'.refl w' (some p.block)).setCell (.inl rfl) u) hp
theorem Left'.kept (h : Left' Option.none w w') : Kept S w w' := (Kept.refl S w).none h
theorem Kept.left (h : Kept [] w w') : Left' Option.none w w' := ⟨h.os, h.tape, h.output, h.size, fun k hk _ => h.block k hk (by simp)⟩
theorem Whole.kept {g : Nat} {t : TypeId} {cs : List Value} (h : Whole w g t cs) (k : Kept S w w') (hg : g ∉ S) : Whole w' g t cs := (k.block g h.lt hg).trans h
theorem Bits.kept {p gw : Nat} {R : List Bool} (h : Bits w p gw R) (k : Kept S w w') (h1 : p ∉ S) (h2 : gw ∉ S) : Bits w' p gw R := ⟨h.head.kept k h1, h.words.kept k h2, h.small⟩
theorem Kept.cell (h : Kept S w w') {p : Addr} (hp : p.block < w.heap.size) (hr : p.block ∉ S) : w'.cell? p = w.cell? p := World.cell?_of_block (h.block p.block hp hr)
theorem tab_kept (hT : Tab w) (hL : Kept S w w') (h0 : 0 < w.heap.size) (hr : 0 ∉ S) : Tab w' := fun j hj => by
  rw [hL.cell (p := ⟨0, j, Option.none⟩) h0 hr]; exact hT j hj
theorem own_left {base e size g n c : Nat} {xs : List Value} (h : w.ownsRow base e size (.slice (some ⟨g, 0, Option.none⟩) n c) n xs) (k : Left' row w w') (hr : row ≠ some g) : w'.ownsRow base e size (.slice (some ⟨g, 0, Option.none⟩) n c) n xs := by
  obtain ⟨h1, h2⟩ := h
  refine ⟨h1, ?_⟩
  rcases h2 with ⟨e1, _⟩ | ⟨g', cap, cur, hv, hg, hh, r⟩
  · cases e1
  · injection hv with hv1 hv2 hv3
    injection hv1 with hv1
    injection hv1 with hv1
    subst hv1
    exact .inr ⟨_, cap, cur, by rw [hv3], hg, (k.block _ (lt_of_block hh) (fun e => hr e.symm)).trans hh, r⟩
end

/-- The widths of the digits, by the set A; the same backwards behind them. -/
def lNat : List (List Nat) := [[3, 2, 1, 1], [2, 2, 2, 1], [2, 1, 2, 2], [1, 4, 1, 1], [1, 1, 3, 2], [1, 2, 3, 1], [1, 1, 1, 4], [1, 3, 1, 2], [1, 2, 1, 3], [3, 1, 1, 2]]
def lgNat : List (List Nat) := lNat ++ lNat.map List.reverse
/-- A digit's runs, each module b wide. -/
def wid (b d : Nat) : List Nat := (lgNat.getD d []).map (b * ·)

theorem wid_four (b d : Nat) (hd : d < 20) : ∃ x y z u, wid b d = [b * x, b * y, b * z, b * u] ∧ 0 < x ∧ 0 < y ∧ 0 < z ∧ 0 < u ∧ x + y + z + u = 7 ∧ lgPats.getD d [] = [(x : Int), y, z, u] ∧ (d < 10 → lPats.getD d [] = [(x : Int), y, z, u]) := by
  have : d = 0 ∨ d = 1 ∨ d = 2 ∨ d = 3 ∨ d = 4 ∨ d = 5 ∨ d = 6 ∨ d = 7 ∨ d = 8 ∨ d = 9 ∨ d = 10 ∨ d = 11 ∨ d = 12 ∨ d = 13 ∨ d = 14 ∨ d = 15 ∨ d = 16 ∨ d = 17 ∨ d = 18 ∨ d = 19 := by omega
  rcases this with rfl | rfl | rfl | rfl | rfl | rfl | rfl | rfl | rfl | rfl | rfl | rfl | rfl | rfl | rfl | rfl | rfl | rfl | rfl | rfl <;> exact ⟨_, _, _, _, rfl, by decide, by decide, by decide, by decide, rfl, rfl, fun h => by first | rfl | omega⟩

theorem wid_length (b d : Nat) (hd : d < 20) : (wid b d).length = 4 := by
  obtain ⟨x, y, z, u, e, _⟩ := wid_four b d hd
  rw [e]; rfl
theorem wid_sum (b d : Nat) (hd : d < 20) : (wid b d).sum = 7 * b := by
  obtain ⟨x, y, z, u, e, _, _, _, _, h, _⟩ := wid_four b d hd
  rw [e]
  simp only [List.sum_cons, List.sum_nil]
  rw [← h, Nat.mul_comm _ b]
  simp only [Nat.mul_add]
  omega
theorem wid_pos (b d : Nat) (hd : d < 20) (hb : 0 < b) : ∀ n ∈ wid b d, 0 < n := by
  obtain ⟨x, y, z, u, e, h1, h2, h3, h4, _⟩ := wid_four b d hd
  rw [e]
  intro n hn
  simp only [List.mem_cons, List.not_mem_nil, or_false] at hn
  rcases hn with rfl | rfl | rfl | rfl <;> exact Nat.mul_pos hb (by assumption)

theorem wid_best_lg (b d : Nat) (hb : 0 < b) (hb4 : b ≤ 4) (hd : d < 20) : best ((wid b d).map fun (k : Nat) => (k : Int)) lgPats 0 maxAvg (-1) = some (d : Int) := by
  obtain ⟨x, y, z, u, e, _, _, _, _, _, h1, _⟩ := wid_four b d hd
  have e2 : ((wid b d).map fun (k : Nat) => (k : Int)) = (lgPats.getD d []).map ((b : Int) * ·) := by
    rw [e, h1]; simp
  rw [e2]
  have := allLG_true
  unfold allLG at this
  rw [List.all_eq_true] at this
  have h2 := this (b : Int) (by
    have : b = 1 ∨ b = 2 ∨ b = 3 ∨ b = 4 := by omega
    rcases this with rfl | rfl | rfl | rfl <;> simp)
  rw [List.all_eq_true] at h2
  simpa using h2 d (by simpa using hd)
theorem wid_best_l (b d : Nat) (hb : 0 < b) (hb4 : b ≤ 4) (hd : d < 10) : best ((wid b d).map fun (k : Nat) => (k : Int)) lPats 0 maxAvg (-1) = some (d : Int) := by
  obtain ⟨x, y, z, u, e, _, _, _, _, _, _, h1⟩ := wid_four b d (by omega)
  have e2 : ((wid b d).map fun (k : Nat) => (k : Int)) = (lPats.getD d []).map ((b : Int) * ·) := by
    rw [e, h1 hd]; simp
  rw [e2]
  have := allL_true
  unfold allL at this
  rw [List.all_eq_true] at this
  have h2 := this (b : Int) (by
    have : b = 1 ∨ b = 2 ∨ b = 3 ∨ b = 4 := by omega
    rcases this with rfl | rfl | rfl | rfl <;> simp)
  rw [List.all_eq_true] at h2
  simpa using h2 d (by simpa using hd)

theorem lg_rows (b d : Nat) (hb : 0 < b) (hd : d < 20) (i : Nat) (hi : i < 20) : (lgPats.getD i []).length = 4 ∧ (lgPats.getD i []).sum ≤ ((wid b d).map fun (k : Nat) => (k : Int)).sum ∧ ∀ j, 0 ≤ (lgPats.getD i []).getD j 0 ∧ (lgPats.getD i []).getD j 0 ≤ 100000 := by
  obtain ⟨x, y, z, u, e, _, _, _, _, hs, _⟩ := wid_four b d hd
  obtain ⟨x', y', z', u', _, _, _, _, _, hs', h', _⟩ := wid_four 1 i hi
  rw [h', e]
  have h7 : 7 ≤ b * x + b * y + b * z + b * u := by
    have : b * x + b * y + b * z + b * u = b * 7 := by rw [← hs]; simp only [Nat.mul_add]
    omega
  refine ⟨rfl, ?_, fun j => ?_⟩
  · simp only [List.map_cons, List.map_nil, List.sum_cons, List.sum_nil]
    generalize b * x = p1 at h7 ⊢
    generalize b * y = p2 at h7 ⊢
    generalize b * z = p3 at h7 ⊢
    generalize b * u = p4 at h7 ⊢
    omega
  · match j with
    | 0 => simp; omega
    | 1 => simp; omega
    | 2 => simp; omega
    | 3 => simp; omega
    | j + 4 => simp

/-- A digit by the set A. -/
theorem digitL_any (p gw gc gm s base b d : Nat) (c : Bool) (R : List Bool) (old : List Value) (w : World) (hb : 0 < b) (hb4 : b ≤ 4) (hd : d < 10)
    (hB : Bits w p gw R) (hC : Whole w gc 3 old) (hol : old.length = 4) (hM : Mat w base gm 4 lPats) (hgb : gc < base) (hR : RunsAt R s c (wid b d)) :
    Calls Tryz.prog 110 #[.pointer (some ⟨p, 0, none⟩), .slice (some ⟨gc, 0, none⟩) 4 4, .int .i64 s, .slice (some ⟨gm, 0, none⟩) 10 10] w fun e w' => e = .returned (.tuple #[.int .i64 d, .nilIface]) ∧ Whole w' gc 3 (nats (wid b d)) ∧ Left' (some gc) w w' :=
  digit_any p gw gc gm s base d c R (wid b d) old lPats w hB hC hol hM hgb (by decide) (wid_length b d (by omega)) (wid_pos b d (by omega) hb) hR
    (fun i hi => by
      have hi' : i < 10 := hi
      have := lg_rows b d hb (by omega) i (by omega)
      obtain ⟨x, y, z, u, _, _, _, _, _, _, h1, h2⟩ := wid_four 1 i (by omega)
      rw [h1] at this; rw [h2 hi']; exact this)
    (wid_best_l b d hb hb4 hd) (by omega)
/-- A digit by either set. -/
theorem digitLG_any (p gw gc gm s base b d : Nat) (c : Bool) (R : List Bool) (old : List Value) (w : World) (hb : 0 < b) (hb4 : b ≤ 4) (hd : d < 20)
    (hB : Bits w p gw R) (hC : Whole w gc 3 old) (hol : old.length = 4) (hM : Mat w base gm 4 lgPats) (hgb : gc < base) (hR : RunsAt R s c (wid b d)) :
    Calls Tryz.prog 110 #[.pointer (some ⟨p, 0, none⟩), .slice (some ⟨gc, 0, none⟩) 4 4, .int .i64 s, .slice (some ⟨gm, 0, none⟩) 20 20] w fun e w' => e = .returned (.tuple #[.int .i64 d, .nilIface]) ∧ Whole w' gc 3 (nats (wid b d)) ∧ Left' (some gc) w w' :=
  digit_any p gw gc gm s base d c R (wid b d) old lgPats w hB hC hol hM hgb (by decide) (wid_length b d hd) (wid_pos b d hd hb) hR
    (fun i hi => lg_rows b d hb hd i hi)
    (wid_best_lg b d hb hb4 hd) (by omega)
end Go.Proofs.YtojngchcghabiaaGreatDoor
