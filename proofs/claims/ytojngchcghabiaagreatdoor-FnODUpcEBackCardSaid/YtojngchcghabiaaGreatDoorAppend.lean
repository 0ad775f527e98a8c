/- The writer: runs appended to a row of bools (function 50), the digit check (49). -/
import Derived.Test.YtojngchcghabiaaGreatDoorSpecEight
namespace Go.Proofs.YtojngchcghabiaaGreatDoor
open Go Go.RowKit

/-- A row of bools: A, then k light ones. -/
def bls (A : List Bool) (k : Nat) : List Value := (A ++ List.replicate k false).map Value.bool
theorem bls_at (A : List Bool) (k : Nat) (hk : 0 < k) : (bls A k)[A.length]? = some (.bool false) := by
  obtain ⟨k, rfl⟩ : ∃ j, k = j + 1 := ⟨k - 1, by omega⟩
  simp [bls, List.replicate_succ]
theorem bls_set (A : List Bool) (k : Nat) (c : Bool) (hk : 0 < k) : (bls A k).set A.length (.bool c) = bls (A ++ [c]) (k - 1) := by
  obtain ⟨k, rfl⟩ : ∃ j, k = j + 1 := ⟨k - 1, by omega⟩
  simp [bls, List.replicate_succ, List.set_append_right]
theorem sum_take (ns : List Nat) (j : Nat) (h : j < ns.length) : (ns.take (j + 1)).sum = (ns.take j).sum + ns.getD j 0 := by
  rw [List.take_add_one, List.getD_eq_getElem?_getD, List.sum_append]; simp [h]
theorem sum_take_le (ns : List Nat) (j : Nat) : (ns.take j).sum ≤ ns.sum := by
  conv => rhs; rw [← List.take_append_drop j ns, List.sum_append]
  omega
theorem bars_take (c : Bool) (ns : List Nat) (j : Nat) (h : j < ns.length) : bars c (ns.take (j + 1)) = bars c (ns.take j) ++ List.replicate (ns.getD j 0) (hue c j) := by
  rw [List.take_add_one, List.getD_eq_getElem?_getD, List.getElem?_eq_getElem h]
  simp only [Option.toList_some, Option.getD_some]
  rw [bars_append, List.length_take, Nat.min_eq_left (by omega)]
  simp [bars]

set_option maxRecDepth 10000 in
set_option maxHeartbeats 2000000 in
/-- onedWriter_appendPattern: runs from the place A.length on. -/
theorem append_any (g gp cm k : Nat) (A : List Bool) (ns : List Nat) (c : Bool) (w : World) (hg : Whole w g 4 (bls A k)) (hp : Whole w gp 3 (nats ns)) (hk : ns.sum ≤ k) (hlen : A.length + k ≤ 1000) (hm : ns.length ≤ 100) :
    Calls Tryz.prog 50 #[.slice (some ⟨g, 0, none⟩) (A.length + k : Nat) (A.length + k : Nat), .int .i64 (A.length : Nat), .slice (some ⟨gp, 0, none⟩) ns.length cm, .bool c] w fun e w' =>
      e = .returned (.int .i64 (ns.sum : Nat)) ∧ Whole w' g 4 (bls (A ++ bars c ns) (k - ns.sum)) ∧ Left' (some g) w w' := by
  have hne := hg.ne hp (by decide)
  have HG := Lib.hid hg
  have HP := Lib.hid hp
  clear hg hp
  go_enter Tryz.func50, Tryz.ntmps50
  go_wp2
  go_loopw [1, 9, 10, 17] (fun p col a i wr => ∃ j : Nat, j ≤ ns.length ∧ p = .int .i64 (A.length + (ns.take j).sum : Nat) ∧ col = .bool (hue c j) ∧ a = .int .i64 ((ns.take j).sum : Nat) ∧ i = .int .i64 j ∧ Whole wr g 4 (bls (A ++ bars c (ns.take j)) (k - (ns.take j).sum)) ∧ Left' (some g) w wr) (fun _ _ _ i _ => ns.length - (intOf i).toNat)
  case atStart => exact ⟨0, by omega, rfl, rfl, rfl, rfl, by simpa [bars] using HG.out, .refl _ _⟩
  case round =>
    obtain ⟨j, hj, rfl, rfl, rfl, rfl, hW, hL⟩ := hrel
    have hS := sum_take_le ns j
    by_cases hjn : j < ns.length
    · have hst := sum_take ns j hjn
      have hS1 := sum_take_le ns (j + 1)
      have hcx := (HP.out.left hL (by simpa using hne)).cell j
      rw [nats_get ns j hjn] at hcx
      have HS := Lib.hid (And.intro hst (And.intro (bars_take c ns j hjn) (hue_succ c j)))
      have hlB : (A ++ bars c (ns.take j)).length = A.length + (ns.take j).sum := by rw [List.length_append, bars_length]
      have HW := Lib.hid hW
      have HL := Lib.hid hL
      clear hW hL hst
      rw [HS.out.1] at hS1
      generalize hB : A ++ bars c (ns.take j) = B at *
      have HB := Lib.hid hB
      generalize hn : ns.getD j 0 = n at *
      generalize hs : (ns.take j).sum = S at *
      generalize hue c j = col at *
      clear hB hn hs
      go_wp2
      obtain ⟨wo, rfl⟩ : ∃ wo : World, wo = wr := ⟨_, rfl⟩
      go_loopw [1, 13] (fun p i wx => ∃ t : Nat, t ≤ n ∧ p = .int .i64 (A.length + S + t : Nat) ∧ i = .int .i64 t ∧ Whole wx g 4 (bls (B ++ List.replicate t col) (k - S - t)) ∧ Left' (some g) w wx) (fun _ i _ => n - (intOf i).toNat)
      case atStart => exact ⟨0, by omega, rfl, rfl, by simpa using HW.out, HL.out⟩
      case round =>
        clear HW HL
        obtain ⟨t, ht, rfl, rfl, hW, hL⟩ := hrel
        have hlB2 : (B ++ List.replicate t col).length = A.length + S + t := by simp [hlB]
        by_cases htn : t < n
        · have hat := bls_at (B ++ List.replicate t col) (k - S - t) (by omega)
          have hset := bls_set (B ++ List.replicate t col) (k - S - t) col (by omega)
          rw [hlB2] at hat hset
          have hcl := hW.cell (A.length + S + t)
          rw [hat] at hcl
          have hfz := hW.frozen (A.length + S + t)
          have HW := Lib.hid hW
          have HL := Lib.hid hL
          have HX := Lib.hid hset
          clear hW hL hat hset
          go_wp2
          go_roundw
          case rel =>
            refine ⟨t + 1, by omega, by go_num, by go_num, ?_, HL.out.setCell (.inl rfl) _⟩
            have := HW.out.set (A.length + S + t) (.bool col)
            rw [HX.out] at this
            rw [List.replicate_succ', ← List.append_assoc]
            exact this
          case measure => simp [intOf]; omega
        · have htn' : t = n := by omega
          subst htn'
          have HF := Lib.hid (And.intro hW hL)
          clear hW hL
          go_wp2
          go_roundw
          case rel =>
            refine ⟨j + 1, by omega, ?_, ?_, ?_, by go_num, ?_, HF.out.2⟩
            · rw [HS.out.1]; go_num
            · rw [HS.out.2.2]
            · rw [HS.out.1]; go_num
            · rw [HS.out.2.1, ← List.append_assoc, HB.out, HS.out.1, Nat.sub_add_eq]
              exact HF.out.1
          case measure => simp [intOf]; omega
    · have hjn' : j = ns.length := by omega
      rw [hjn', List.take_length] at hW ⊢
      have HF := Lib.hid (And.intro hW hL)
      clear hW hL
      go_wp2
      go_ret
      exact ⟨rfl, HF.out.1, HF.out.2⟩

theorem Tryz.underlying25 : Tryz.prog.underlying 25 = some (.slice 4) := by kernel_rfl
theorem info4 : (Tryz.prog.info? 4).map (fun i => (i.zero, i.size, i.bytes)) = some (some (.bool false), 1, 1) := by kernel_rfl

set_option maxHeartbeats 1000000 in
/-- onedWriter_checkNumeric of digits. -/
theorem numeric_any (s : ByteArray) (n : Nat) (ds : Nat → Nat) (w : World) (h : Says s n ds) (hn : n ≤ 100) :
    Calls Tryz.prog 49 #[.string s] w fun e w' => e = .returned .nilIface ∧ Left' none w w' := by
  have H := Lib.hid h
  have hsz := h.size
  clear h
  go_enter Tryz.func49, Tryz.ntmps49
  go_wp2
  go_loopw [7] (fun _ wr => ∃ k : Nat, k ≤ s.size ∧ wr = w.iter s k) (fun _ wr => s.size - wr.iterPos w.heap.size)
  case atStart => exact ⟨0, by omega, rfl⟩
  case round =>
    obtain ⟨k, hk, rfl⟩ := hrel
    by_cases hks : k < s.size
    · have hb := H.out.byte k hks
      have hd := H.out.dig k
      have hnx := fun ty => run_next_ascii (P := Tryz.prog) w s k ty hks (by omega)
      have hb1 : 48 ≤ s[k].toNat := by omega
      have hb2 : s[k].toNat ≤ 57 := by omega
      clear hb hd
      go_wp2
      go_roundw
      case rel => exact ⟨k + 1, by omega, rfl⟩
      case measure => simp; omega
    · have hnx := fun ty => run_next_end (P := Tryz.prog) w s k ty hks
      go_wp2
      go_ret
      exact ⟨rfl, (Left'.refl _ _).alloc _⟩
end Go.Proofs.YtojngchcghabiaaGreatDoor
