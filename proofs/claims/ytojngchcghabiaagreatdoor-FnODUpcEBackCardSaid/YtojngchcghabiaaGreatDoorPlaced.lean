/- The row widened and placed (functions 22, 9). -/
import Derived.Test.YtojngchcghabiaaGreatDoorOwned
namespace Go.Proofs.YtojngchcghabiaaGreatDoor
open Go Go.RowKit

/-- Each place b times. -/
def stretch (b : Nat) (R : List Bool) : List Bool := R.flatMap fun c => List.replicate b c
theorem stretch_length (b : Nat) (R : List Bool) : (stretch b R).length = b * R.length := by
  induction R with
  | nil => simp [stretch]
  | cons c R ih => rw [show stretch b (c :: R) = List.replicate b c ++ stretch b R from rfl, List.length_append, ih, List.length_replicate, List.length_cons, Nat.mul_succ]; omega
theorem stretch_append (b : Nat) (R S : List Bool) : stretch b (R ++ S) = stretch b R ++ stretch b S := by simp [stretch]
theorem stretch_take (b : Nat) (R : List Bool) (k : Nat) (h : k < R.length) : stretch b (R.take (k + 1)) = stretch b (R.take k) ++ List.replicate b (R.getD k false) := by
  rw [List.take_add_one, List.getElem?_eq_getElem h, stretch_append]
  simp [stretch, h]

/-- A slice that holds the row L, in a block of the call's own. -/
def Holds (w wr : World) (v : Value) (L : List Bool) : Prop :=
  ∃ g cap, v = .slice (some ⟨g, 0, none⟩) L.length cap ∧ wr.ownsRow w.heap.size 4 1 (.slice (some ⟨g, 0, none⟩) L.length cap) L.length (L.map Value.bool) ∧ Left' none w wr

theorem Holds.more {w wr wr' : World} {g n : Nat} {v' : Value} {L M : List Bool} (hw : w.heap.size ≤ g) (hL : Left' none w wr) (hn : n = (L ++ M).length) (h0 : 0 < n) (h : wr'.ownsRow w.heap.size 4 1 v' n (L.map Value.bool ++ M.map Value.bool)) (hl : Left' (some g) wr wr') : Holds w wr' v' (L ++ M) := by
  subst hn
  rcases h.2 with ⟨_, h2⟩ | ⟨g', cap', _, h2, _⟩
  · omega
  · subst h2
    rw [← List.map_append] at h
    exact ⟨g', cap', rfl, h, hL.ownOne hl (.inr hw)⟩

set_option maxRecDepth 10000 in
set_option maxHeartbeats 2000000 in
/-- ODWider. -/
theorem wider_any (g cap b l r : Nat) (R : List Bool) (w : World) (hR : ∀ i, i < R.length → w.cell? ⟨g, i, none⟩ = some (.bool (R.getD i false))) (hg : g < w.heap.size) (hb : b ≤ 4) (hl : l ≤ 120) (hr : r ≤ 120) (hl0 : 0 < l) (hr0 : 0 < r) (hn : R.length ≤ 300) :
    Calls Tryz.prog 22 #[.slice (some ⟨g, 0, none⟩) R.length cap, .int .i64 b, .int .i64 l, .int .i64 r] w fun e w' =>
      ∃ v, e = .returned v ∧ Holds w w' v (List.replicate l false ++ stretch b R ++ List.replicate r false) := by
  have HR := Lib.hid hR
  clear hR
  have hmk := fun W => run_make_one (P := Tryz.prog) 25 4 (.bool false) 1 Tryz.underlying25 info4 rfl .i64 .i64 (l : Int) (l : Int) l rfl rfl (by omega) (by omega) W
  obtain ⟨i4, hi, hz, hs, hby⟩ := info4_parts
  have HI := Lib.hid (And.intro hi (And.intro hz (And.intro hs hby)))
  clear hi hz hs hby
  go_enter Tryz.func22, Tryz.ntmps22
  go_wp2
  go_loopw [9, 16] (fun v i wr => ∃ k : Nat, k ≤ R.length ∧ i = .int .i64 k ∧ Holds w wr v (List.replicate l false ++ stretch b (R.take k))) (fun _ i _ => R.length - (intOf i).toNat)
  case atStart =>
    refine ⟨0, by omega, rfl, w.heap.size, l, by simp [stretch], ?_, (Left'.refl _ _).alloc _⟩
    simp only [List.take_zero, stretch, List.flatMap_nil, List.append_nil, List.length_replicate]
    refine ⟨by simp, .inr ⟨w.heap.size, l, (reps l (.bool false)), rfl, Nat.le_refl _, heap_alloc_new w _, Nat.le_refl _, by simp only [maxLen]; omega, by simp [reps], by simp [reps]⟩⟩
  case round =>
    obtain ⟨k, hk, rfl, g9, c9, rfl, hO, hL⟩ := hrel
    by_cases hkn : k < R.length
    · have hc := HR.out k hkn
      rw [← hL.cell (p := ⟨g, k, none⟩) hg (by simp)] at hc
      have HS := Lib.hid (stretch_take b R k hkn)
      have hlen : (List.replicate l false ++ stretch b (R.take k)).length = l + b * k := by
        rw [List.length_append, List.length_replicate, stretch_length, List.length_take, Nat.min_eq_left (by omega)]
      have hbk : b * k ≤ 1200 := Nat.mul_le_mul hb (by omega : k ≤ 300)
      have HO := Lib.hid (And.intro hO hL)
      clear hO hL
      generalize hA : List.replicate l false ++ stretch b (R.take k) = A at *
      generalize R.getD k false = col at *
      have HA := Lib.hid hA
      clear hA
      go_wp2
      obtain ⟨wo, rfl⟩ : ∃ wo : World, wo = wr := ⟨_, rfl⟩
      go_loopw [9, 21] (fun v i wx => ∃ t : Nat, t ≤ b ∧ i = .int .i64 t ∧ Holds w wx v (A ++ List.replicate t col)) (fun _ i _ => b - (intOf i).toNat)
      case atStart => exact ⟨0, by omega, rfl, g9, c9, by simp, by simpa using HO.out.1, HO.out.2⟩
      case round =>
        clear HO
        obtain ⟨t, ht, rfl, g8, c8, rfl, hO, hL⟩ := hrel
        have hg8 := (hO.lt g8 rfl).1
        have hwx : w.heap.size ≤ wr.heap.size := hL.size
        by_cases htb : t < b
        · have hl2 : (A ++ List.replicate t col).length = l + b * k + t := by simp [hlen]
          have HO := Lib.hid (And.intro (hO.alloc (.cells #[.bool col] 4)) hL)
          clear hO hL
          generalize hB : A ++ List.replicate t col = B at *
          have HB := Lib.hid hB
          clear hB
          go_wp2_with (at_builtin; refine wpList_append_own _ rfl (.tmp 23) (.tmp 25) 25 rfl w.heap.size 4 i4 (.bool false) 1 1 Tryz.underlying25 HI.out.1 HI.out.2.1 HI.out.2.2.1 HI.out.2.2.2 rfl (by decide) _ B.length (B.map .bool) rfl HO.out.1 ⟨wr.heap.size, 0, none⟩ 1 1 [.bool col] rfl rfl ?_ ?_ (by simp only [maxLen]; omega) (by omega) (by simp; omega) ?_)
          · intro j u hj
            have hj0 : j = 0 := by
              rcases Nat.eq_zero_or_pos j with h | h
              · exact h
              · rw [List.getElem?_eq_none (by simp; omega)] at hj; cases hj
            subst hj0
            rw [← hj]
            have := (Whole.new wr 4 [.bool col]).cell 0
            exact this
          · intro u hu
            rw [List.mem_singleton] at hu
            subst hu
            rfl
          · intro v' w' hown hleft hnil
            have HF := Lib.hid (And.intro hown hleft)
            clear hown hleft hnil
            go_wp2
            go_roundw
            case rel =>
              refine ⟨t + 1, by omega, by go_num, ?_⟩
              rw [List.replicate_succ', ← List.append_assoc, HB.out]
              exact Holds.more (M := [col]) hg8 HO.out.2 (by rw [List.length_append, hl2]; rfl) (by omega) HF.out.1 ((Left'.refl _ _).alloc _ |>.trans HF.out.2)
            case measure => simp [intOf]; omega
        · have htb' : t = b := by omega
          rw [htb', HA.out.symm, List.append_assoc, ← HS.out] at hO
          rw [htb', HA.out.symm, List.append_assoc, ← HS.out]
          have HF := Lib.hid (And.intro hO hL)
          clear hO hL
          go_wp2
          go_roundw
          case rel => exact ⟨k + 1, by omega, by go_num, g8, c8, rfl, HF.out.1, HF.out.2⟩
          case measure => simp [intOf]; omega
    · have hk' : k = R.length := by omega
      rw [hk', List.take_length] at hO ⊢
      have hg9 := (hO.lt g9 rfl).1
      have hlen : (List.replicate l false ++ stretch b R).length = l + b * R.length := by
        rw [List.length_append, List.length_replicate, stretch_length]
      have hbk : b * R.length ≤ 1200 := Nat.mul_le_mul hb (by omega : R.length ≤ 300)
      obtain ⟨g', cap', w', hr', hown', hl'⟩ := run_append_zeros_own (P := Tryz.prog) w.heap.size 25 3 25 4 (.bool false) 1 .i64 Tryz.underlying25 Tryz.underlying3 info4 rfl rfl g9 _ c9 r _ hO hr0 (by simp only [maxLen]; omega) (by omega) hL.size
      have HX := Lib.hid (And.intro hg9 (And.intro hL (And.intro hown' hl')))
      clear hO hL hown' hl' hg9 hk'
      go_wp2_with (at_builtin; refine Lib.wpList_append_run _ rfl (.tmp 29) (.tmp 30) 25 3 rfl _ _ rfl rfl _ _ hr' ?_)
      go_ret
      obtain ⟨h1, h2, h3, h4⟩ := HX.out
      refine ⟨_, rfl, ?_⟩
      show Holds w w' (.slice (some ⟨g', 0, none⟩) (l + b * R.length + r) cap') _
      rw [← hlen]
      exact (Holds.more (n := (List.replicate l false ++ stretch b R).length + r) (M := List.replicate r false) h1 h2 (by simp only [List.length_append, List.length_replicate]) (by omega) (by rw [List.map_replicate]; exact h3) h4)

/-- The width of a module, and the quiet zones, out of three bytes. -/
def byOf (p0 : Nat) : Nat := 1 + p0 % 4
def quietOf (b p : Nat) : Nat := 10 * b + p % (20 * b)

set_option maxHeartbeats 2000000 in
/-- ODPlaced. -/
theorem placed_any (v : Value) (g cap p0 p1 p2 : Nat) (R : List Bool) (w : World) (hv : v = .agg #[.int .u8 p0, .int .u8 p1, .int .u8 p2]) (h0 : p0 < 256) (h1 : p1 < 256) (h2 : p2 < 256) (hR : ∀ i, i < R.length → w.cell? ⟨g, i, none⟩ = some (.bool (R.getD i false))) (hg : g < w.heap.size) (hn : R.length ≤ 300) :
    Calls Tryz.prog 9 #[.slice (some ⟨g, 0, none⟩) R.length cap, v] w fun e w' =>
      ∃ v, e = .returned v ∧ Holds w w' v (List.replicate (quietOf (byOf p0) p1) false ++ stretch (byOf p0) R ++ List.replicate (quietOf (byOf p0) p2) false) := by
  subst hv
  have HR := Lib.hid hR
  clear hR
  have hb1 : 1 ≤ byOf p0 ∧ byOf p0 ≤ 4 := by unfold byOf; omega
  have hbe : (byOf p0 : Int) = 1 + (p0 : Int) % 4 := by unfold byOf; omega
  have HB := Lib.hid hbe
  clear hbe
  go_enter Tryz.func9, Tryz.ntmps9
  go_wp2_with fail
  have hq : ∀ p : Nat, wrap64 (10 * (1 + (p0 : Int) % 4) + (p : Int) % (20 * (1 + (p0 : Int) % 4))) = (quietOf (byOf p0) p : Int) := by
    intro p
    have hm := Nat.mod_lt p (show 0 < 20 * byOf p0 by omega)
    rw [← HB.out]
    have e : (p : Int) % (20 * (byOf p0 : Int)) = ((p % (20 * byOf p0) : Nat) : Int) := by
      rw [Int.natCast_emod, Int.natCast_mul]; rfl
    rw [e]
    unfold quietOf
    generalize p % (20 * byOf p0) = z at *
    rw [IntWalk.wrap64_in _ (by omega)]
    omega
  have hq1 := hq p1
  have hq2 := hq p2
  clear hq
  rw [hq1, hq2, ← HB.out]
  clear hq1 hq2
  generalize hw1 : World.alloc _ _ = w1
  have HL := Lib.hid (show Left' none w w1 by rw [← hw1]; exact (Left'.refl _ _).alloc _)
  clear hw1
  have hz1 : quietOf (byOf p0) p1 ≤ 120 ∧ 0 < quietOf (byOf p0) p1 := by
    unfold quietOf; have := Nat.mod_lt p1 (show 0 < 20 * byOf p0 by omega); omega
  have hz2 : quietOf (byOf p0) p2 ≤ 120 ∧ 0 < quietOf (byOf p0) p2 := by
    unfold quietOf; have := Nat.mod_lt p2 (show 0 < 20 * byOf p0 by omega); omega
  refine (wider_any g cap (byOf p0) (quietOf (byOf p0) p1) (quietOf (byOf p0) p2) R w1 (fun i hi => by rw [HL.out.cell (p := ⟨g, i, none⟩) hg (by simp)]; exact HR.out i hi) (Nat.lt_of_lt_of_le hg HL.out.size) hb1.2 hz1.1 hz2.1 hz1.2 hz2.2 hn).mono ?_
  rintro e w2 ⟨v, rfl, hH⟩
  have HH := Lib.hid hH
  clear hH
  go_wp2
  go_ret
  refine ⟨v, rfl, ?_⟩
  obtain ⟨g', cap', rfl, hO, hL⟩ := HH.out
  refine ⟨g', cap', rfl, ⟨hO.1, ?_⟩, HL.out.trans hL⟩
  rcases hO.2 with h | ⟨g2, c2, cur, e1, e2, e3⟩
  · exact .inl h
  · exact .inr ⟨g2, c2, cur, e1, Nat.le_trans HL.out.size e2, e3⟩
end Go.Proofs.YtojngchcghabiaaGreatDoor
