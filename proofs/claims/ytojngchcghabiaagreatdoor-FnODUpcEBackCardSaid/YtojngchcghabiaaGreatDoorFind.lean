/-
  The walks over findGuardPattern and findStartGuardPattern, and over the error that tells that nothing was found.
-/
import Derived.Test.YtojngchcghabiaaGreatDoorGuard
namespace Go.Proofs.YtojngchcghabiaaGreatDoor
open Go Go.RowKit

def nfText : Value := .string { data := #[78, 111, 116, 70, 111, 117, 110, 100, 69, 120, 99, 101, 112, 116, 105, 111, 110] }
theorem newExc_any (s : ByteArray) (w : World) : Calls Tryz.prog 79 #[.string s, .slice none 0 0] w fun e w' => e = .returned (.agg #[.string s, .nilIface]) ∧ Left' none w w' := by
  go_enter Tryz.func79, Tryz.ntmps79
  go_wp2
  exact bodyPost_ret (v := .agg #[.string s, .nilIface]) (by simp [results, Tryz.results79, go_sem]) rfl ⟨rfl, (Left'.refl w none).alloc _⟩

/-- NewNotFoundException: an error of type 114. -/
theorem newNotFound_any (w : World) : Calls Tryz.prog 61 #[.slice none 0 0] w fun e w' => e = .returned (.iface 114 (.agg #[nfText, .nilIface])) ∧ Left' none w w' := by
  have hmk : ∀ (x : Value) (w : World), (Instr.makeInterface 114 x).run Tryz.prog w = .ok (.iface 114 x) w := fun x w => run_makeInterface w 114 x (by kernel_rfl)
  go_enter Tryz.func61, Tryz.ntmps61
  go_wp2_with fail
  refine (newExc_any _ w).mono ?_
  rintro e w' ⟨rfl, hL⟩
  have HL := Lib.hid hL
  clear hL
  go_wp2
  go_ret
  exact ⟨rfl, HL.out⟩

/-- Where no dark place follows no guard is found. -/
theorem guard_none (p gw gc gp m n : Nat) (R : List Bool) (w : World) (hB : Bits w p gw R) (hm : m < R.length) (hlo : ∀ i, m ≤ i → R.getD i false = false) :
    Calls Tryz.prog 56 #[.pointer (some ⟨p, 0, none⟩), .int .i64 m, .bool false, .slice (some ⟨gp, 0, none⟩) n n, .slice (some ⟨gc, 0, none⟩) n n] w fun e w' => e = .returned (.tuple #[.slice none 0 0, .iface 114 (.agg #[nfText, .nilIface])]) ∧ Left' none w w' := by
  have hs := hB.small
  have HB := Lib.hid hB
  have HL := Lib.hid hlo
  clear hB hlo
  go_enter Tryz.func56, Tryz.ntmps56
  go_wp2_with fail
  refine (getSize_any p gw R w HB.out).mono ?_
  rintro e w' ⟨rfl, rfl⟩
  go_wp2_with fail
  refine (nextSet_none p gw m R w HB.out hm HL.out).mono ?_
  rintro e w' ⟨rfl, rfl⟩
  go_wp2
  refine wp_loop_rounds 1 ?_
  rw [rounds_succ]
  go_wp2_with fail
  refine (newNotFound_any w).mono ?_
  rintro e w' ⟨rfl, hL⟩
  have HL := Lib.hid hL
  clear hL
  go_wp2
  go_ret2
  exact ⟨rfl, HL.out⟩

theorem info3 : (Tryz.prog.info? 3).map (fun i => (i.zero, i.size, i.bytes)) = some (some (.int .i64 0), 1, 8) := by kernel_rfl
theorem Tryz.underlying54 : Tryz.prog.underlying 54 = some (.slice 3) := by kernel_rfl

theorem nats_zero (n : Nat) : List.replicate n (Value.int .i64 0) = nats (List.replicate n 0) := by simp [nats]

/-- findGuardPattern, where the row goes on in runs of one width. -/
theorem find_any (p gw gp m q n v : Nat) (wf : Bool) (R : List Bool) (cs : List Nat) (w : World) (hB : Bits w p gw R) (hT : Tab w) (hP : Whole w gp 3 (ints (List.replicate n 1))) (hn : n ≤ 10)
    (hcl : cs.length = n) (hpos : ∀ k ∈ cs, 0 < k) (hcs0 : 0 < cs.sum)
    (hmq : m ≤ q) (hskip : ∀ i, m ≤ i → i < q → R.getD i false = wf) (hR : RunsAt R q (!wf) cs)
    (hv : pmv (cs.map fun (k : Nat) => (k : Int)) (List.replicate n 1) = some v) (hlt : (fOrd v maxAvg == some .lt) = true) :
    Calls Tryz.prog 89 #[.pointer (some ⟨p, 0, none⟩), .int .i64 m, .bool wf, .slice (some ⟨gp, 0, none⟩) n n] w (Found none q (q + cs.sum) w) := by
  have hpw := hP.lt
  have H := Lib.hid (And.intro hB (And.intro hT (And.intro hP (And.intro hcl (And.intro hpos (And.intro hskip (And.intro hR (And.intro hv hlt))))))))
  clear hB hT hP hcl hpos hskip hR hv hlt
  have hmk := fun W => run_make_one (P := Tryz.prog) 54 3 (.int .i64 0) 8 Tryz.underlying54 info3 rfl .i64 .i64 (n : Int) (n : Int) n rfl rfl (by omega) (by omega) W
  go_enter Tryz.func89, Tryz.ntmps89
  go_wp2_with fail
  obtain ⟨hB, hT, hP, hcl, hpos, hskip, hR, hv, hlt⟩ := H.out
  have hA : Left' none w (w.alloc (.cells (reps n (.int .i64 0)) 3)) := (Left'.refl w none).alloc _
  refine (guard_any p gw w.heap.size gp m q n v wf R cs _ (hB.left hA (by simp) (by simp)) (fun j hj => ?_) ?_ (hP.left hA (by simp)) hn hcl hpos hcs0 (by omega) hmq hskip hR hv hlt).mono ?_
  · have : 0 < w.heap.size := by omega
    rw [hA.cell (p := ⟨0, j, none⟩) this (by simp)]; exact hT j hj
  · rw [← nats_zero]; exact Whole.reps w 3 n (.int .i64 0)
  rintro e w' ⟨g, rfl, hW, hz, hL⟩
  have HF := Lib.hid (And.intro hW (And.intro hz hL))
  clear hW hz hL hB hT hP hcl hpos hskip hR hv hlt hA
  go_wp2
  go_ret2
  obtain ⟨hW, hz, hL⟩ := HF.out
  refine ⟨g, rfl, hW, ?_, ((Left'.refl w none).alloc (.cells (reps n (.int .i64 0)) 3)).own hL ?_⟩
  · simp at hz; omega
  · intro k hk; right; simp at hk; omega

/-- findGuardPattern, where no dark place follows. -/
theorem find_none (p gw gp m n : Nat) (R : List Bool) (w : World) (hB : Bits w p gw R) (hn : n ≤ 10) (hm : m < R.length) (hlo : ∀ i, m ≤ i → R.getD i false = false) :
    Calls Tryz.prog 89 #[.pointer (some ⟨p, 0, none⟩), .int .i64 m, .bool false, .slice (some ⟨gp, 0, none⟩) n n] w fun e w' => e = .returned (.tuple #[.slice none 0 0, .iface 114 (.agg #[nfText, .nilIface])]) ∧ Left' none w w' := by
  have HB := Lib.hid hB
  have HL := Lib.hid hlo
  clear hB hlo
  have hmk := fun W => run_make_one (P := Tryz.prog) 54 3 (.int .i64 0) 8 Tryz.underlying54 info3 rfl .i64 .i64 (n : Int) (n : Int) n rfl rfl (by omega) (by omega) W
  go_enter Tryz.func89, Tryz.ntmps89
  go_wp2_with fail
  have hA : Left' none w (w.alloc (.cells (reps n (.int .i64 0)) 3)) := (Left'.refl w none).alloc _
  refine (guard_none p gw w.heap.size gp m n R _ (HB.out.left hA (by simp) (by simp)) hm HL.out).mono ?_
  rintro e w' ⟨rfl, hL⟩
  have HF := Lib.hid (hA.trans hL)
  clear hL hA
  go_wp2
  go_ret2
  exact ⟨rfl, HF.out⟩

theorem tab_left {w w' : World} {row : Option Nat} (hT : Tab w) (hL : Left' row w w') (h0 : 0 < w.heap.size) (hr : row ≠ some 0) : Tab w' := fun j hj => by
  rw [hL.cell (p := ⟨0, j, none⟩) h0 hr]; exact hT j hj

/-- Whether a flag still stands. -/
def flagOf : Value → Nat | .bool true => 0 | _ => 1

set_option maxHeartbeats 2000000 in
/-- findStartGuardPattern, where the row begins light and goes on in three runs of one width. -/
theorem findStart_any (p gw q v : Nat) (R : List Bool) (b : Nat) (w : World) (hB : Bits w p gw R) (hT : Tab w) (hb : 0 < b) (hqb : 3 * b ≤ q)
    (hskip : ∀ i, i < q → R.getD i false = false) (hR : RunsAt R q true [b, b, b])
    (hv : pmv ([b, b, b].map fun (k : Nat) => (k : Int)) (List.replicate 3 1) = some v) (hlt : (fOrd v maxAvg == some .lt) = true) :
    Calls Tryz.prog 39 #[.pointer (some ⟨p, 0, none⟩)] w (Found none q (q + 3 * b) w) := by
  have hs := hB.small
  have hpw := hB.head.lt
  have hs2 := hR.1
  simp only [List.sum_cons, List.sum_nil] at hs2
  have H := Lib.hid (And.intro hB (And.intro hT (And.intro hskip (And.intro hR (And.intro hv hlt)))))
  clear hB hT hskip hR hv hlt
  have hmk := fun W => run_make_one (P := Tryz.prog) 54 3 (.int .i64 0) 8 Tryz.underlying54 info3 rfl .i64 .i64 3 3 3 rfl rfl (by omega) (by omega) W
  go_enter Tryz.func39, Tryz.ntmps39
  go_wp2_with fail
  refine (startEnd_any w).mono ?_
  rintro e w' ⟨g0, rfl, hW0, hg0, hL0⟩
  have hsz := hL0.size
  have H0 := Lib.hid hL0
  clear hW0 hL0 hg0
  go_wp2
  have hW1 := Whole.reps w' 3 3 (.int .i64 0)
  have hL1 : Left' none w (w'.alloc (.cells (reps 3 (.int .i64 0)) 3)) := H0.out.alloc _
  rw [nats_zero] at hW1
  clear hmk H0
  generalize w'.alloc (.cells (reps 3 (.int .i64 0)) 3) = W1 at hW1 hL1 ⊢
  generalize w'.heap.size = gc at hW1 hsz ⊢
  have HW1 := Lib.hid hW1
  have HL1 := Lib.hid hL1
  clear hW1 hL1
  go_loopw [4, 5, 6] (fun f sr ns wr => (f = .bool false ∧ ns = .int .i64 0 ∧ Whole wr gc 3 (nats (List.replicate 3 0)) ∧ Left' none w wr) ∨ (f = .bool true ∧ ∃ g, sr = .slice (some ⟨g, 0, none⟩) 2 2 ∧ Whole wr g 3 (nats [q, q + 3 * b]) ∧ w.heap.size ≤ g ∧ Left' none w wr)) (fun f _ _ _ => flagOf f)
  case atStart => exact .inl ⟨rfl, rfl, HW1.out, HL1.out⟩
  case round =>
    clear HW1 HL1
    rcases hrel with ⟨rfl, rfl, hW, hL⟩ | ⟨rfl, g, rfl, hW, hg, hL⟩
    · have HW := Lib.hid hW
      have HL := Lib.hid hL
      clear hW hL
      go_wp2
      obtain ⟨wo, rfl⟩ : ∃ wo : World, wo = wr := ⟨_, rfl⟩
      go_loopw [19] (fun i wr => ∃ k : Nat, k ≤ 3 ∧ i = .int .i64 k ∧ Whole wr gc 3 (nats (List.replicate 3 0)) ∧ Left' none w wr) (fun i _ => 3 - (intOf i).toNat)
      case atStart => exact ⟨0, by omega, rfl, HW.out, HL.out⟩
      case round =>
        clear HW HL
        obtain ⟨k, hk, rfl, hW, hL⟩ := hrel
        by_cases hk3 : k < 3
        · have hc1 := hW.cell k
          rw [nats_get _ _ (by simpa using hk3)] at hc1
          have hf1 := hW.frozen k
          have HW := Lib.hid hW
          have HL := Lib.hid hL
          clear hW hL
          go_wp2
          go_roundw
          case rel =>
            refine ⟨k + 1, by omega, by go_num, ?_, HL.out.setCell (.inr hsz) _⟩
            have := HW.out.set k (.int .i64 ((0 : Nat) : Int))
            rw [nats_set] at this
            have e : (List.replicate 3 0).set k 0 = List.replicate 3 0 := by
              have : k = 0 ∨ k = 1 ∨ k = 2 := by omega
              rcases this with rfl | rfl | rfl <;> rfl
            rw [e] at this
            exact this
          case measure => simp [intOf]; omega
        · have HW := Lib.hid hW
          have HL := Lib.hid hL
          clear hW hL
          obtain ⟨hB, hT, hskip, hR, hv, hlt⟩ := H.out
          have HB2 := Lib.hid (hB.left HL.out (by simp) (by simp))
          have HT2 := Lib.hid (tab_left hT HL.out (by omega) (by simp))
          have HX := Lib.hid (And.intro hskip (And.intro hR (And.intro hv hlt)))
          clear hB hT hskip hR hv hlt
          go_wp2_with fail
          refine (startEnd_any wr).mono ?_
          rintro e w' ⟨g1, rfl, hW1, hg1, hL1⟩
          have hgc := HW.out.lt
          have hsz1 := hL1.size
          have hsz0 := HL.out.size
          have HW1 := Lib.hid hW1
          have HL1 := Lib.hid hL1
          clear hW1 hL1
          go_wp2_with fail
          obtain ⟨hskip, hR, hv, hlt⟩ := HX.out
          refine (guard_any p gw gc g1 0 q 3 v false R [b, b, b] w' (HB2.out.left HL1.out (by simp) (by simp)) (tab_left HT2.out HL1.out (by omega) (by simp)) (HW.out.left HL1.out (by simp)) HW1.out (by omega) rfl (by simpa using hb) (by simp; omega) (by omega) (by omega) (fun i _ h => hskip i h) hR hv hlt).mono ?_
          rintro e w2 ⟨g2, rfl, hW2, hg2, hL2⟩
          clear hskip hR hv hlt
          have e3 : q + [b, b, b].sum = q + 3 * b := by simp; omega
          rw [e3] at hW2
          have hc0 : w2.cell? ⟨g2, 0, none⟩ = some (.int .i64 q) := hW2.cell 0
          have hc1 : w2.cell? ⟨g2, 1, none⟩ = some (.int .i64 ((q + 3 * b : Nat) : Int)) := hW2.cell 1
          have hLL := HL.out.trans (HL1.out.own (row := none) (Left'.refl _ none) (by simp))
          have HLL : Hid (Left' none w w2) := Lib.hid (hLL.own hL2 (fun k hk => .inr (by have : gc = k := by simpa using hk
                                                                                         omega)))
          have HB3 := Lib.hid ((H.out.1).left HLL.out (by simp) (by simp))
          have HW2 := Lib.hid hW2
          clear hW2 hL2 hLL e3
          go_wp2_with fail
          rw [show ((q : Int) - ((q : Int) + 3 * (b : Int) - (q : Int))) = ((q - 3 * b : Nat) : Int) by omega]
          refine (isRange_light p gw (q - 3 * b) q R w2 HB3.out (by omega) (by omega) (fun i _ h => HX.out.1 i h)).mono ?_
          rintro e w' ⟨rfl, rfl⟩
          go_wp2
          go_roundw
          case rel => exact .inr ⟨rfl, g2, rfl, HW2.out, by omega, HLL.out⟩
          case measure => simp [flagOf]
    · have HF := Lib.hid (And.intro hW (And.intro hg hL))
      clear hW hg hL
      go_wp2
      go_ret2
      exact ⟨g, rfl, HF.out.1, HF.out.2.1, HF.out.2.2⟩
end Go.Proofs.YtojngchcghabiaaGreatDoor
