/- Rows of bools that the call owns: the writer drawn (functions 27, 18, 17, 7); append of zeros. -/
import Derived.Test.YtojngchcghabiaaGreatDoorWriteEight
import Derived.Lib.AppendZerosOnto
namespace Go.Proofs.YtojngchcghabiaaGreatDoor
open Go Go.RowKit

theorem zeros_one (z : Value) (h : z.cells = #[z]) (n : Nat) : Builtin.zeroCells z.cells n = (List.replicate n z).toArray := by
  rw [h]
  apply Array.ext
  · simp [Builtin.zeroCells]
  · intro i h1 h2
    simp [Builtin.zeroCells]
    rw [Nat.mod_one]; rfl

/-- append(s, make([]T, m)...) of a row that the call owns: elements of one cell. -/
theorem run_append_zeros_own {P : Program} {w : World} (base : Nat) (t tn ty e : TypeId) (z : Value) (by_ : Nat) (kn : IntKind) (ht : P.underlying t = some (.slice e)) (htn : P.underlying tn = some (.int kn))
    (hi : (P.info? e).map (fun i => (i.zero, i.size, i.bytes)) = some (some z, 1, by_)) (hz1 : z.cells = #[z]) (h1 : z.oneCell' = true)
    (g n cap m : Nat) (xs : List Value) (hown : w.ownsRow base e 1 (.slice (some ⟨g, 0, none⟩) n cap) n xs) (hm : 0 < m) (h63 : n + m ≤ maxLen) (hbytes : (n + m) * by_ ≤ 140737488355328) (hbase : base ≤ w.heap.size) :
    ∃ g' cap' w', (Builtin.append_ #[t, tn] ty #[.slice (some ⟨g, 0, none⟩) n cap, .int .i64 m]).run P w = .ok (.slice (some ⟨g', 0, none⟩) (n + m) cap') w' ∧ w'.ownsRow base e 1 (.slice (some ⟨g', 0, none⟩) (n + m) cap') (n + m) (xs ++ List.replicate m z) ∧ w.grownBy w' (some g) := by
  obtain ⟨i, hi0, hz0, hs1, hby⟩ := info_parts hi
  have hzz : Builtin.zeroCells z.cells m = (List.replicate m z).toArray := zeros_one z hz1 m
  have hxl : xs.length = n := by have := hown.1; omega
  have hlen : (xs ++ List.replicate m z).length = (n + m) * 1 := by simp [hxl]
  rcases hown.2 with ⟨hv, _⟩ | ⟨g0, cap0, cur, hv, hbg, hg, hnc, hcm, hcs, htake⟩
  · cases hv
  · injection hv with hv1 hv2 hv3
    injection hv1 with hv1
    injection hv1 with hv1
    subst hv1 hv3
    rw [Nat.mul_one] at hcs
    rw [Nat.mul_one] at htake
    by_cases hroom : n + m ≤ cap
    · have hst := run_storeCells_at P g n e (List.replicate m z) 0 cur w hg (by simp; omega) (fun v hv => by rw [List.eq_of_mem_replicate hv]; exact h1)
      simp only [Nat.add_zero] at hst
      have hw : IntKind.i64.wrap (m : Int) = m := by rw [IntKind.wrap_i64]; simp only [maxLen] at h63; omega
      have hneg : ¬ ((m : Int) < 0) := by omega
      have h48i : ¬ (281474976710656 < (m : Int) * (i.bytes : Int)) := by
        rw [← Int.natCast_mul, hby]
        rw [Nat.add_mul] at hbytes
        omega
      have hm0 : m ≠ 0 := by omega
      refine ⟨g, cap, w.setRow g (cur.toList.take n ++ List.replicate m z ++ cur.toList.drop (n + (List.replicate m z).length)).toArray, ?_, ⟨hlen, .inr ⟨g, cap, _, rfl, hbg, setRow_heap w g cur _ e _ hg, hroom, hcm, ?_, ?_⟩⟩, ⟨rfl, rfl, rfl, by simp, fun k _ hk => setRow_other w g k _ (fun e => hk (by simp [e]))⟩⟩
      · simp [Builtin.append_, run_underlying ht, run_underlying htn, sizeOf, typeInfo, zeroValue, hi0, hz0, hs1, asInt, asIntOf, hw, hneg, h48i, hroom, hm0, hzz, Addr.add_lit]
        simp only [List.length_replicate] at hst
        simp [hst]
      · simp only [List.size_toArray, List.length_append, List.length_take, List.length_drop, Array.length_toList, List.length_replicate]
        omega
      · rw [htake]
        show ((xs ++ List.replicate m z) ++ _).take ((n + m) * 1) = _
        rw [← hlen]
        exact List.take_left
    · have holds := hown.cells (g := g) rfl
      have hl := run_loadCells_list (P := P) w.drew ⟨g, 0, none⟩ xs (fun j u hj => by have := holds j u hj; exact this)
      have hold : (Builtin.firstCells i.size n (.slice (some ⟨g, 0, none⟩) n cap)).run P w.drew = .ok xs.toArray w.drew := by
        rw [hxl] at hl
        simp only [Builtin.firstCells, hs1, Nat.mul_one]
        exact hl
      have hr := Lib.run_append_grow_zeros w t tn ty e i z .i64 kn ht htn hi0 hz0 (some ⟨g, 0, none⟩) n cap xs hold m hm (by omega) (by omega) (by simp only [maxLen] at h63; omega) (by rw [hby]; rw [Nat.add_mul] at hbytes; omega) (growslice_fits (by omega) (by rw [hby]; exact hbytes))
      rw [hzz] at hr
      refine ⟨_, _, _, hr, ⟨hlen, .inr ⟨w.heap.size, _, _, rfl, hbase, heap_alloc_new w.drew _, grownCap_ge w _ _ _, grownCap_le_maxLen w _ _ _ h63, ?_, ?_⟩⟩, ⟨rfl, rfl, rfl, by simp, fun k hk _ => (heap_alloc_old w.drew _ hk)⟩⟩
      · have hge := grownCap_ge w (n + m) cap e
        simp only [Array.size_append, List.size_toArray, size_zeroCells, List.length_replicate, hz1, hxl]
        simp
        omega
      · simp only [Array.toList_append]
        rw [← hlen]
        exact List.take_left

/-- A call that makes a row of its own with these bools, and says that all is well. -/
def OwnBools (R : List Bool) (w : World) (e : Ending) (w' : World) : Prop :=
  ∃ g cap, e = .returned (.tuple #[.slice (some ⟨g, 0, none⟩) R.length cap, .bool true]) ∧ w'.ownsRow w.heap.size 4 1 (.slice (some ⟨g, 0, none⟩) R.length cap) R.length (R.map Value.bool) ∧ Left' none w w'

theorem info4_parts : ∃ i, Tryz.prog.info? 4 = some i ∧ i.zero = some (.bool false) ∧ i.size = 1 ∧ i.bytes = 1 := info_parts info4

set_option maxHeartbeats 1000000 in
theorem drawn_any (g : Nat) (R : List Bool) (w : World) (hW : Whole w g 4 (bls R 0)) (h0 : 0 < R.length) (hR : R.length ≤ 1000) :
    Calls Tryz.prog 17 #[.slice (some ⟨g, 0, none⟩) R.length R.length, .nilIface] w (OwnBools R w) := by
  obtain ⟨i, hi, hz, hs, hb⟩ := info4_parts
  have HI := Lib.hid (And.intro hi (And.intro hz (And.intro hs hb)))
  have HW := Lib.hid hW
  clear hi hz hs hb hW
  go_enter Tryz.func17, Tryz.ntmps17
  go_wp2_with (at_builtin; refine wpList_append_own _ rfl (.const (.slice none 0 0)) (.tmp 8) 25 rfl w.heap.size 4 i (.bool false) 1 1 Tryz.underlying25 HI.out.1 HI.out.2.1 HI.out.2.2.1 HI.out.2.2.2 rfl (by decide) _ 0 [] rfl (World.ownsRow_nil _ _ _ _) ⟨g, 0, none⟩ R.length R.length (R.map .bool) rfl (by simp) ?_ ?_ (by simp only [maxLen]; omega) (by omega) (Nat.le_refl _) ?_)
  · intro j u hj
    have := HW.out.cell j
    simp only [bls, List.replicate_zero, List.append_nil] at this
    rw [Addr.add_lit, Nat.zero_add, this]
    exact hj
  · intro u hu
    obtain ⟨b, _, rfl⟩ := List.mem_map.1 hu
    rfl
  · intro v' w' hown hleft hnil
    obtain ⟨g', cap', rfl⟩ : ∃ g' cap', v' = .slice (some ⟨g', 0, none⟩) R.length cap' := by
      rcases hown.2 with ⟨_, h⟩ | ⟨g', cap', _, h, _⟩
      · omega
      · exact ⟨g', cap', h⟩
    have HF := Lib.hid (And.intro hown hleft)
    clear hown hleft hnil
    go_wp2
    go_ret2
    exact ⟨g', cap', rfl, HF.out.1, HF.out.2⟩

/-- What the writer draws for a text. -/
def Writes8 (s : ByteArray) (R : List Bool) : Prop := ∀ w, Calls Tryz.prog 37 #[.agg #[], .string s, .map none] w (MakesBools R w)

set_option maxHeartbeats 1000000 in
theorem enc8_any (s : ByteArray) (R : List Bool) (w : World) (h : Writes8 s R) : Calls Tryz.prog 27 #[.agg #[], .string s] w (MakesBools R w) := by
  have H := Lib.hid h
  clear h
  go_enter Tryz.func27, Tryz.ntmps27
  go_wp2_with fail
  generalize hw0 : World.alloc _ _ = w0
  have HL := Lib.hid (show Left' none w w0 by rw [← hw0]; exact (Left'.refl _ _).alloc _)
  clear hw0
  refine (H.out w0).mono ?_
  rintro e w1 ⟨g, rfl, hW, hg, hL⟩
  have HF := Lib.hid (And.intro hW (HL.out.trans hL))
  have hg' : w.heap.size ≤ g := by have := HL.out.size; omega
  clear hW hL hg
  go_wp2
  go_ret2
  exact ⟨g, rfl, HF.out.1, hg', HF.out.2⟩

set_option maxHeartbeats 1000000 in
theorem bars8_any (s : ByteArray) (R : List Bool) (w : World) (h : Writes8 s R) : Calls Tryz.prog 18 #[.string s] w (MakesBools R w) := by
  have H := Lib.hid h
  clear h
  go_enter Tryz.func18, Tryz.ntmps18
  go_wp2_with fail
  refine (enc8_any s R w H.out).mono ?_
  rintro e w1 ⟨g, rfl, hW, hg, hL⟩
  have HF := Lib.hid (And.intro hW hL)
  clear hW hL
  go_wp2
  go_ret2
  exact ⟨g, rfl, HF.out.1, hg, HF.out.2⟩

set_option maxHeartbeats 1000000 in
/-- ODEan8Bars. -/
theorem odBars8_any (s : ByteArray) (R : List Bool) (w : World) (h : Writes8 s R) (h0 : 0 < R.length) (hR : R.length ≤ 1000) : Calls Tryz.prog 7 #[.string s] w (OwnBools R w) := by
  have H := Lib.hid h
  clear h
  go_enter Tryz.func7, Tryz.ntmps7
  go_wp2_with fail
  refine (bars8_any s R w H.out).mono ?_
  rintro e w1 ⟨g, rfl, hW, hg, hL⟩
  have HL := Lib.hid hL
  have HW := Lib.hid hW
  clear hW hL
  go_wp2_with fail
  refine (drawn_any g R w1 HW.out h0 hR).mono ?_
  rintro e w2 ⟨g2, cap, rfl, hO, hL2⟩
  have hO2 : w2.ownsRow w.heap.size 4 1 (.slice (some ⟨g2, 0, none⟩) R.length cap) R.length (R.map Value.bool) := by
    refine ⟨hO.1, ?_⟩
    rcases hO.2 with h | ⟨g', cap', cur, h1, h2, h3⟩
    · exact .inl h
    · exact .inr ⟨g', cap', cur, h1, Nat.le_trans HL.out.size h2, h3⟩
  have HF := Lib.hid (And.intro hO2 (HL.out.trans hL2))
  clear hO hO2 hL2 HW
  go_wp2
  go_ret2
  exact ⟨g2, cap, rfl, HF.out.1, HF.out.2⟩
end Go.Proofs.YtojngchcghabiaaGreatDoor
