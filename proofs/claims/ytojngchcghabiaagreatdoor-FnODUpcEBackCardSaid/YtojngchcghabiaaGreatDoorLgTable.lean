/-
  The walk over UPCEANReader_L_AND_G_PATTERNS: the ten rows and the ten rows backwards, made anew.
-/
import Derived.Test.YtojngchcghabiaaGreatDoorDigit
import Derived.Laws.CopyOwn
namespace Go.Proofs.YtojngchcghabiaaGreatDoor
open Go Go.RowKit

theorem Tryz.underlying98 : Tryz.prog.underlying 98 = some (.slice 54) := by kernel_rfl
theorem info54 : (Tryz.prog.info? 54).map (fun i => (i.zero, i.size, i.bytes)) = some (some (.slice none 0 0), 1, 24) := by kernel_rfl
theorem size54 : (Tryz.prog.info? 54).map (·.size) = some 1 := by kernel_rfl

/-- copy into the head of a block that is known whole. -/
theorem wpList_copy_whole {P : Program} {w : World} {ops : Array Oper} {rest : List Oper} {o : Oper} {a : Act} {Q : Exit → Act → World → Prop} (hgd : o.guard = none) (d s : Operand) (dT sT : TypeId)
    (ho : o.op = .call { callee := .builtin .copy, args := #[d, s], argTypes := #[dT, sT] }) (elem : TypeId) (hu : P.underlying dT = some (.slice elem)) (hsz : (P.info? elem).map (·.size) = some 1)
    (g dLen dCap : Nat) (ad : Addr) (sLen sCap : Nat) (hd : a.eval d = .slice (some ⟨g, 0, none⟩) dLen dCap) (hs : a.eval s = .slice (some ad) sLen sCap)
    (cur : List Value) (t : TypeId) (hg : Hid (Whole w g t cur)) (cs : List Value) (hn : cs.length = Nat.min sLen dLen)
    (hsrc : ∀ j v, cs[j]? = some v → w.cell? (ad.add j) = some v) (hfit : cs.length ≤ cur.length) (h1 : ∀ v ∈ cs, v.oneCell' = true)
    (h : ∀ w', Hid (Whole w' g t (cs ++ cur.drop cs.length)) → Hid (Left' (some g) w w') → wpList P ops Q rest (a.put o.dst (goInt cs.length)) w') : wpList P ops Q (o :: rest) a w := by
  refine wpList_copy_own hgd d s dT sT ho elem hu hsz g 0 dLen dCap ad sLen sCap hd hs cur.toArray t hg.out cs hn hsrc (by simpa using hfit) h1 (h _ ?_ ?_)
  · have := setRow_heap w g cur.toArray (cur.toArray.toList.take 0 ++ (cs ++ cur.toArray.toList.drop (0 + cs.length))).toArray t (0, 0) hg.out
    have e : cur.toArray.toList.take 0 ++ (cs ++ cur.toArray.toList.drop (0 + cs.length)) = cs ++ cur.drop cs.length := by simp
    rw [e] at this ⊢
    exact Lib.hid this
  · exact Lib.hid ⟨rfl, rfl, rfl, by simp, fun k _ hk => setRow_other w g k _ (fun e => hk (by rw [e]))⟩

/-- A step that may have changed one block that the call itself has made. -/
theorem Left'.ownOne {w w' w'' : World} {row : Option Nat} {g : Nat} (h : Left' row w w') (k : Left' (some g) w' w'') (hg : row = some g ∨ w.heap.size ≤ g) : Left' row w w'' :=
  h.own k fun g' e => by
    have : g = g' := by simpa using e
    subst this; exact hg

/-- The table's cells, as far as they are laid. -/
def lgCells (at_ : Nat → Nat) (k : Nat) : List Value := (List.range 20).map fun i => if i < k then .slice (some ⟨at_ i, 0, none⟩) 4 4 else .slice none 0 0
theorem lgCells_get (at_ : Nat → Nat) (k i : Nat) (hi : i < 20) : (lgCells at_ k)[i]? = some (if i < k then .slice (some ⟨at_ i, 0, none⟩) 4 4 else .slice none 0 0) := by
  simp [lgCells, hi]
theorem lgCells_set (at_ : Nat → Nat) (k g : Nat) (hk : k < 20) : (lgCells at_ k).set k (.slice (some ⟨g, 0, none⟩) 4 4) = lgCells (fun i => if i = k then g else at_ i) (k + 1) := by
  apply List.ext_getElem?
  intro i
  by_cases hi : i < 20
  · rw [List.getElem?_set, lgCells_get _ _ _ hi, lgCells_get _ _ _ hi]
    by_cases h : k = i
    · subst h; simp [lgCells, hk]
    · rw [if_neg h]
      by_cases h2 : i < k
      · simp [h2, show i < k + 1 by omega, show i ≠ k by omega]
      · simp [h2, show ¬ i < k + 1 by omega]
  · rw [List.getElem?_eq_none (by simp [lgCells]; omega), List.getElem?_eq_none (by simp [lgCells]; omega)]

/-- The first k rows of the table lie in their blocks. -/
structure LgUpto (w : World) (base gm k : Nat) (at_ : Nat → Nat) : Prop where
  head : Whole w gm 54 (lgCells at_ k)
  rows : ∀ i, i < k → Whole w (at_ i) 3 (ints (lgPats.getD i [])) ∧ base ≤ at_ i

theorem LgUpto.left {w w' : World} {base gm k : Nat} {at_ : Nat → Nat} {row : Option Nat} (h : LgUpto w base gm k at_) (hL : Left' row w w') (hr : ∀ g, row = some g → w.heap.size ≤ g) : LgUpto w' base gm k at_ :=
  ⟨h.head.left hL (fun e => by have := hr _ e; have := h.head.lt; omega), fun i hi => ⟨(h.rows i hi).1.left hL (fun e => by have := hr _ e; have := (h.rows i hi).1.lt; omega), (h.rows i hi).2⟩⟩

def part (a b c d : Int) (j : Nat) : List Int := [if 0 < j then d else 0, if 1 < j then c else 0, if 2 < j then b else 0, if 3 < j then a else 0]

theorem lPats_row (k : Nat) (hk : k < 10) : ∃ a b c d, lPats.getD k [] = [a, b, c, d] ∧ lgPats.getD (10 + k) [] = [d, c, b, a] ∧ lgPats.getD k [] = [a, b, c, d] := by
  have : k = 0 ∨ k = 1 ∨ k = 2 ∨ k = 3 ∨ k = 4 ∨ k = 5 ∨ k = 6 ∨ k = 7 ∨ k = 8 ∨ k = 9 := by omega
  rcases this with rfl | rfl | rfl | rfl | rfl | rfl | rfl | rfl | rfl | rfl <;> exact ⟨_, _, _, _, rfl, rfl, rfl⟩

set_option maxRecDepth 100000 in
set_option maxHeartbeats 2000000 in
theorem lgPats_any (w : World) : Calls Tryz.prog 76 #[] w (MakesMat 4 lgPats w) := by
  have hmk := fun W => run_make_one (P := Tryz.prog) 98 54 (.slice none 0 0) 24 Tryz.underlying98 info54 rfl .i64 .i64 20 20 20 rfl rfl (by omega) (by omega) W
  go_enter Tryz.func76, Tryz.ntmps76
  go_wp2_with fail
  have hM0 := Whole.reps w 54 20 (.slice none 0 0)
  have hA : Left' none w (w.alloc (.cells (reps 20 (.slice none 0 0)) 54)) := (Left'.refl w none).alloc _
  have hsz : (w.alloc (.cells (reps 20 (.slice none 0 0)) 54)).heap.size = w.heap.size + 1 := by simp
  clear hmk
  generalize w.alloc (.cells (reps 20 (.slice none 0 0)) 54) = w0 at hM0 hA hsz ⊢
  refine (lPats_any w0).mono ?_
  rintro e w1 ⟨gl, rfl, ⟨at_, hl1, hl2, hl3⟩, hL⟩
  have hlen : lPats.length = 10 := rfl
  rw [hlen] at hl1 hl3 ⊢
  clear hlen
  have HM0 := Lib.hid (hM0.left hL (by simp))
  have HA := Lib.hid (hA.trans hL)
  have HL1 := Lib.hid (And.intro hl1 hl3)
  clear hM0 hA hl1 hl3 hL
  obtain ⟨cs, hcs⟩ : ∃ cs, cs = (List.range 10).map fun i => Value.slice (some ⟨at_ i, 0, none⟩) 4 4 := ⟨_, rfl⟩
  have hcl : cs.length = Nat.min 10 20 := by rw [hcs]; simp
  have HCS := Lib.hid hcs
  have HCL := Lib.hid hcl
  clear hcs hcl
  go_wp2_with (with_reducible refine wpList_copy_whole rfl (.tmp 7) (.tmp 8) 98 98 rfl 54 Tryz.underlying98 size54 w.heap.size 20 20 ⟨gl, 0, none⟩ 10 10 rfl rfl _ 54 HM0 cs HCL.out ?_ ?_ ?_ ?_)
  · intro j v hj
    have e : w1.cell? ⟨gl, j, none⟩ = cs[j]? := by rw [HL1.out.1.cell, HCS.out]
    rw [Addr.add]
    split
    · rename_i h0; subst h0; rw [e]; exact hj
    · rw [show 0 + j = j by omega, e]; exact hj
  · rw [HCL.out]; simp
  · intro v hv
    rw [HCS.out] at hv
    simp at hv
    obtain ⟨i, _, rfl⟩ := hv
    rfl
  intro w2 HW2 HL2
  go_wp2
  have hsz1 : w.heap.size ≤ w1.heap.size := HA.out.size
  have hG : LgUpto w2 w.heap.size w.heap.size 10 at_ := by
    refine ⟨?_, fun i hi => ?_⟩
    · have := HW2.out
      rw [HCL.out, HCS.out] at this
      exact this
    · obtain ⟨r1, r2⟩ := HL1.out.2 i (by simpa [lPats] using hi)
      have hne : w.heap.size ≠ at_ i := by omega
      refine ⟨?_, by omega⟩
      have h := r1.left HL2.out (by simpa using hne)
      obtain ⟨a, b, c, d, e1, e2, e3⟩ := lPats_row i hi
      rw [e1] at h; rw [e3]; exact h
  have hA2 : Left' none w w2 := HA.out.ownOne HL2.out (.inr (Nat.le_refl _))
  have HG := Lib.hid hG
  have HA2 := Lib.hid hA2
  clear hG hA2 HW2 HL2 HCS HCL HL1 HM0 HA hsz hsz1
  go_loopw [2] (fun i wr => ∃ (k : Nat) (at_ : Nat → Nat), k ≤ 10 ∧ i = .int .i64 (10 + k : Nat) ∧ LgUpto wr w.heap.size w.heap.size (10 + k) at_ ∧ Left' none w wr) (fun i _ => 20 - (intOf i).toNat)
  case atStart => exact ⟨0, at_, by omega, rfl, HG.out, HA2.out⟩
  case round =>
    clear HG HA2
    obtain ⟨k, at_, hk, rfl, hG, hA⟩ := hrel
    have HG := Lib.hid hG
    have HA := Lib.hid hA
    have hszr := hA.size
    clear hG hA
    by_cases hk10 : k < 10
    · go_wp2_with fail
      refine (lPats_any wr).mono ?_
      rintro e w3 ⟨gl, rfl, ⟨atl, hl1, hl2, hl3⟩, hL⟩
      have hlen : lPats.length = 10 := rfl
      rw [hlen] at hl1 hl3 ⊢
      clear hlen
      obtain ⟨a, b, c, d, e1, e2, e3⟩ := lPats_row k hk10
      obtain ⟨hrow, hrb⟩ := hl3 k hk10
      rw [e1] at hrow
      have hc1 : w3.cell? ⟨gl, k, none⟩ = some (.slice (some ⟨atl k, 0, none⟩) 4 4) := by rw [hl1.cell]; simp [hk10]
      have HE := Lib.hid e2
      have HROW := Lib.hid hrow
      have HL3 := Lib.hid hL
      have hsz3 := hL.size
      clear e1 e2 e3 hl1 hl2 hl3 hrow hL
      generalize atl k = gk at *
      have hmk := fun W => run_make_one (P := Tryz.prog) 54 3 (.int .i64 0) 8 Tryz.underlying54 info3 rfl .i64 .i64 4 4 4 rfl rfl (by omega) (by omega) W
      go_wp2
      have hM := Whole.reps w3 3 4 (.int .i64 0)
      have hA4 : Left' none w3 (w3.alloc (.cells (reps 4 (.int .i64 0)) 3)) := (Left'.refl w3 none).alloc _
      clear hmk
      generalize w3.alloc (.cells (reps 4 (.int .i64 0)) 3) = w4 at hM hA4 ⊢
      have hgk := HROW.out.lt
      have HROW4 := Lib.hid (HROW.out.left hA4 (by simp))
      have HM := Lib.hid hM
      have HA4 := Lib.hid hA4
      clear hM hA4
      generalize hg : w3.heap.size = gr at *
      obtain ⟨wo, rfl⟩ : ∃ wo : World, wo = wr := ⟨_, rfl⟩
      go_loopw [5] (fun i wr => ∃ j : Nat, j ≤ 4 ∧ i = .int .i64 j ∧ Whole wr gr 3 (ints (part a b c d j)) ∧ Left' (some gr) w4 wr) (fun i _ => 4 - (intOf i).toNat)
      case atStart => exact ⟨0, by omega, rfl, HM.out, Left'.refl _ _⟩
      case round =>
        clear HM
        obtain ⟨j, hj, rfl, hW, hL⟩ := hrel
        have hR := HROW4.out.left hL (by simp; omega)
        have HW := Lib.hid hW
        have HL := Lib.hid hL
        have hf1 := hW.frozen j
        clear hW hL
        have : j = 0 ∨ j = 1 ∨ j = 2 ∨ j = 3 ∨ j = 4 := by omega
        rcases this with rfl | rfl | rfl | rfl | rfl
        · have h1 : wr.cell? ⟨gk, 3, none⟩ = some (.int .i64 d) := hR.cell 3
          have h2 : wr.cell? ⟨gr, 0, none⟩ = some (.int .i64 0) := HW.out.cell 0
          clear hR
          go_wp2
          go_roundw
          case rel => exact ⟨1, by omega, rfl, HW.out.set 0 (.int .i64 d), HL.out.setCell (.inl rfl) _⟩
          case measure => simp [intOf]
        · have h1 : wr.cell? ⟨gk, 2, none⟩ = some (.int .i64 c) := hR.cell 2
          have h2 : wr.cell? ⟨gr, 1, none⟩ = some (.int .i64 0) := HW.out.cell 1
          clear hR
          go_wp2
          go_roundw
          case rel => exact ⟨2, by omega, rfl, HW.out.set 1 (.int .i64 c), HL.out.setCell (.inl rfl) _⟩
          case measure => simp [intOf]
        · have h1 : wr.cell? ⟨gk, 1, none⟩ = some (.int .i64 b) := hR.cell 1
          have h2 : wr.cell? ⟨gr, 2, none⟩ = some (.int .i64 0) := HW.out.cell 2
          clear hR
          go_wp2
          go_roundw
          case rel => exact ⟨3, by omega, rfl, HW.out.set 2 (.int .i64 b), HL.out.setCell (.inl rfl) _⟩
          case measure => simp [intOf]
        · have h1 : wr.cell? ⟨gk, 0, none⟩ = some (.int .i64 a) := hR.cell 0
          have h2 : wr.cell? ⟨gr, 3, none⟩ = some (.int .i64 0) := HW.out.cell 3
          clear hR
          go_wp2
          go_roundw
          case rel => exact ⟨4, by omega, rfl, HW.out.set 3 (.int .i64 a), HL.out.setCell (.inl rfl) _⟩
          case measure => simp [intOf]
        · clear hR hf1
          have hLL := ((HL3.out.trans HA4.out).of_none (row := some gr)).trans HL.out
          have hgw := HG.out.head.lt
          have hG4 := HG.out.left hLL (fun g hg => by
            have : gr = g := by simpa using hg
            omega)
          have hc4 := hG4.head.cell (10 + k)
          rw [lgCells_get _ _ _ (by omega), if_neg (by omega)] at hc4
          have hf4 := hG4.head.frozen (10 + k)
          have HG4 := Lib.hid hG4
          have HLL := Lib.hid hLL
          clear hLL hG4
          go_wp2
          go_roundw
          case rel =>
            refine ⟨k + 1, fun i => if i = 10 + k then gr else at_ i, by omega, by go_num, ?_, (HA.out.ownOne HLL.out (.inr (by omega))).setCell (.inr (Nat.le_refl _)) _⟩
            refine ⟨?_, fun i hi => ?_⟩
            · have := HG4.out.head.set (10 + k) (.slice (some ⟨gr, 0, none⟩) 4 4)
              rw [lgCells_set _ _ _ (by omega)] at this
              exact this
            · by_cases hik : i = 10 + k
              · subst hik
                simp only [if_true]
                refine ⟨?_, by omega⟩
                rw [HE.out]
                exact HW.out.far (p := ⟨w.heap.size, 10 + k, none⟩) (by simp; omega) _
              · simp only [if_neg hik]
                obtain ⟨r1, r2⟩ := HG4.out.rows i (by omega)
                exact ⟨r1.far (p := ⟨w.heap.size, 10 + k, none⟩) (r1.ne HG4.out.head (by decide)) _, r2⟩
          case measure => simp [intOf]; omega
    · have hk' : k = 10 := by omega
      subst hk'
      go_wp2
      go_ret
      have hG := HG.out
      refine ⟨w.heap.size, rfl, ⟨at_, ?_, Nat.le_refl _, fun i hi => hG.rows i (by simpa [lgPats, lPats] using hi)⟩, HA.out⟩
      have e : (List.range lgPats.length).map (fun i => Value.slice (some ⟨at_ i, 0, none⟩) 4 4) = lgCells at_ (10 + 10) := by
        apply List.ext_getElem?
        intro i
        have hl : lgPats.length = 20 := rfl
        by_cases hi : i < 20
        · rw [lgCells_get _ _ _ hi, if_pos hi]; simp [hl, hi]
        · rw [List.getElem?_eq_none (by simp [hl]; omega), List.getElem?_eq_none (by simp [lgCells]; omega)]
      rw [e]
      exact hG.head
end Go.Proofs.YtojngchcghabiaaGreatDoor
