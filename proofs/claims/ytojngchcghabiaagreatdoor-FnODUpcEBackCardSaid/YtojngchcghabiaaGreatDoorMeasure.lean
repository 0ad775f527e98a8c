/-
  The walk over PatternMatchVariance: it answers the measure of the plain facts.
-/
import Derived.Test.YtojngchcghabiaaGreatDoorScan
import Derived.Test.YtojngchcghabiaaGreatDoorFloats
namespace Go.Proofs.YtojngchcghabiaaGreatDoor
open Go Go.RowKit

set_option maxRecDepth 100000 in
set_option maxHeartbeats 400000 in
theorem inf_any (w : World) : Calls Tryz.prog 97 #[.int .i64 1] w fun e w' => e = .returned (.float .f64 infBits) ∧ w = w' := by
  have hf : (callFunc 109 #[Value.int IntKind.u64 9218868437227405312]).run Tryz.prog w = .ok (.value (.float .f64 infBits)) w := by kernel_rfl
  go_enter Tryz.func97, Tryz.ntmps97
  go_wp2
  go_ret
  exact ⟨rfl, rfl⟩


/-- The sum of the first k. -/
def sumTo (l : List Int) (k : Nat) : Int := (l.take k).sum
theorem sumTo_zero (l : List Int) : sumTo l 0 = 0 := rfl
theorem sumTo_succ (l : List Int) (k : Nat) : sumTo l (k + 1) = sumTo l k + l.getD k 0 := by
  unfold sumTo
  induction l generalizing k with
  | nil => simp
  | cons a l ih =>
    cases k with
    | zero => simp
    | succ k => simp only [List.take_succ_cons, List.sum_cons, List.getD_cons_succ, ih k]; omega
theorem sumTo_all (l : List Int) (n : Nat) (h : l.length = n) : sumTo l n = l.sum := by unfold sumTo; rw [← h, List.take_length]
theorem sumTo_bd (l : List Int) (hb : ∀ j, 0 ≤ l.getD j 0 ∧ l.getD j 0 ≤ 100000) (k : Nat) : 0 ≤ sumTo l k ∧ sumTo l k ≤ 100000 * k := by
  induction k with
  | zero => simp [sumTo_zero]
  | succ k ih => rw [sumTo_succ]; have := hb k; omega

/-- A difference without its sign. -/
def absF (d : Nat) : Nat := if fOrd d 0 == some .lt then Op.negFloat .f64 d else d

theorem run_neg_float (P : Program) (w : World) (d : Nat) : (Op.unary UnOp.neg (Value.float FloatKind.f64 d)).run P w = .ok (.float .f64 (Op.negFloat .f64 d)) w := rfl
attribute [local go_sem] run_neg_float

theorem pmv_some {cs ps : List Int} {r : Nat} (h : pmv cs ps = some r) : ∃ u m res, FloatKind.f64.format.div (fInt cs.sum) (fInt ps.sum) = some u ∧ FloatKind.f64.format.mul maxInd u = some m ∧ pmvL u m (cs.zip ps) 0 = some res ∧
    ((res = none ∧ r = infBits) ∨ ∃ t, res = some t ∧ FloatKind.f64.format.div t (fInt cs.sum) = some r) := by
  unfold pmv at h
  split at h
  · cases h
  · rename_i u hu
    split at h
    · cases h
    · rename_i m hm
      split at h
      · cases h
      · rename_i hl
        exact ⟨u, m, none, hu, hm, hl, .inl ⟨rfl, (Option.some.inj h).symm⟩⟩
      · rename_i t hl
        exact ⟨u, m, some t, hu, hm, hl, .inr ⟨t, rfl, h⟩⟩

theorem pmvL_step {u m acc : Nat} {c p : Int} {rest : List (Int × Int)} {res : Option Nat} (h : pmvL u m ((c, p) :: rest) acc = some res) :
    ∃ sp d, FloatKind.f64.format.mul (fInt p) u = some sp ∧ FloatKind.f64.format.sub (fInt c) sp = some d ∧
      (((fOrd (absF d) m == some .gt) = true ∧ res = none) ∨ ((fOrd (absF d) m == some .gt) = false ∧ ∃ acc', FloatKind.f64.format.add acc (absF d) = some acc' ∧ pmvL u m rest acc' = some res)) := by
  unfold pmvL at h
  split at h
  · cases h
  · rename_i sp hsp
    split at h
    · cases h
    · rename_i d hd
      refine ⟨sp, d, hsp, hd, ?_⟩
      by_cases hg : (fOrd (absF d) m == some .gt) = true
      · left
        refine ⟨hg, ?_⟩
        have : (fOrd (if fOrd d 0 == some .lt then Op.negFloat .f64 d else d) m == some .gt) = true := hg
        simp only [this, if_true] at h
        exact (Option.some.inj h).symm
      · right
        have hg' : (fOrd (absF d) m == some .gt) = false := by simpa using hg
        refine ⟨hg', ?_⟩
        have : (fOrd (if fOrd d 0 == some .lt then Op.negFloat .f64 d else d) m == some .gt) = false := hg'
        simp only [this, Bool.false_eq_true, if_false] at h
        split at h
        · cases h
        · rename_i acc' ha
          exact ⟨acc', ha, h⟩

theorem zip_drop (cs ps : List Int) (k n : Nat) (hc : cs.length = n) (hp : ps.length = n) (hk : k < n) : (cs.zip ps).drop k = (cs.getD k 0, ps.getD k 0) :: (cs.zip ps).drop (k + 1) := by
  have hl : k < (cs.zip ps).length := by simp; omega
  rw [List.drop_eq_getElem_cons hl]
  congr 1
  simp [List.getElem_zip, hc, hp, hk]

theorem zip_done (cs ps : List Int) (n : Nat) (hc : cs.length = n) (hp : ps.length = n) : (cs.zip ps).drop n = [] := List.drop_eq_nil_of_le (by simp; omega)

theorem ret_float {a b : Nat} (h : a = b) : Ending.returned (.float .f64 a) = .returned (.float .f64 b) := by rw [h]

set_option maxHeartbeats 1000000 in
theorem pmv_any (gc gp n kc kp : Nat) (cs ps : List Int) (r : Nat) (w : World) (hn : n ≤ 10) (hcl : cs.length = n) (hpl : ps.length = n)
    (hc : ∀ j, j < n → w.cell? ⟨gc, j, none⟩ = some (.int .i64 (cs.getD j 0))) (hp : ∀ j, j < n → w.cell? ⟨gp, j, none⟩ = some (.int .i64 (ps.getD j 0)))
    (hcb : ∀ j, 0 ≤ cs.getD j 0 ∧ cs.getD j 0 ≤ 100000) (hpb : ∀ j, 0 ≤ ps.getD j 0 ∧ ps.getD j 0 ≤ 100000)
    (hr : pmv cs ps = some r) (hge : ps.sum ≤ cs.sum) :
    Calls Tryz.prog 86 #[.slice (some ⟨gc, 0, none⟩) n kc, .slice (some ⟨gp, 0, none⟩) n kp, .float .f64 maxInd] w fun e w' => e = .returned (.float .f64 r) ∧ w = w' := by
  have HR := Lib.hid hr
  have HC := Lib.hid hc
  have HP := Lib.hid hp
  have HCB := Lib.hid hcb
  have HPB := Lib.hid hpb
  have HCL := Lib.hid hcl
  have HPL := Lib.hid hpl
  clear hr hc hp hcb hpb hcl hpl
  go_enter Tryz.func86, Tryz.ntmps86
  go_wp2
  go_loop [8, 9, 10] (fun a b i => ∃ k : Nat, k ≤ n ∧ a = .int .i64 (sumTo cs k) ∧ b = .int .i64 (sumTo ps k) ∧ i = .int .i64 k) (fun _ _ i => n - (intOf i).toNat)
  case atStart => exact ⟨0, by omega, rfl, rfl, rfl⟩
  case round =>
    obtain ⟨k, hk, rfl, rfl, rfl⟩ := hrel
    have b1 := sumTo_bd cs HCB.out k
    have b2 := sumTo_bd ps HPB.out k
    by_cases hkn : k < n
    · have c1 := HC.out k hkn
      have c2 := HP.out k hkn
      have d1 := HCB.out k
      have d2 := HPB.out k
      have S1 := Lib.hid (sumTo_succ cs k)
      have S2 := Lib.hid (sumTo_succ ps k)
      generalize hx : cs.getD k 0 = x at c1 d1 S1
      generalize hy : ps.getD k 0 = y at c2 d2 S2
      clear hx hy
      go_wp2
      go_round
      case rel => exact ⟨k + 1, by omega, by rw [S1.out], by rw [S2.out], by go_num⟩
      case measure => simp [intOf]; omega
    · have hkn' : k = n := by omega
      subst hkn'
      have e1 := sumTo_all cs k HCL.out
      have e2 := sumTo_all ps k HPL.out
      rw [e1] at b1 ⊢
      rw [e2] at b2 ⊢
      clear e1 e2
      obtain ⟨u, m, res, hu, hm, hl, hend⟩ := pmv_some HR.out
      have F1 := run_float_arith (P := Tryz.prog) w .quo 122 .f64 _ _ u hu
      have F2 := run_float_arith (P := Tryz.prog) w .mul 122 .f64 _ _ m hm
      have HE := Lib.hid hend
      have HL := Lib.hid hl
      clear hu hm hend hl
      go_wp2
      clear F1 F2
      go_loop [12, 13] (fun a i => ∃ (j acc : Nat), j ≤ k ∧ a = .float .f64 acc ∧ i = .int .i64 j ∧ pmvL u m ((cs.zip ps).drop j) acc = some res) (fun _ i => k - (intOf i).toNat)
      case atStart => exact ⟨0, 0, by omega, rfl, rfl, HL.out⟩
      case round =>
        obtain ⟨j, acc, hj, rfl, rfl, hl⟩ := hrel
        by_cases hjn : j < k
        · rw [zip_drop cs ps j k HCL.out HPL.out hjn] at hl
          have c1 := HC.out j hjn
          have c2 := HP.out j hjn
          have d1 := HCB.out j
          have d2 := HPB.out j
          generalize hx : cs.getD j 0 = x at c1 d1 hl
          generalize hy : ps.getD j 0 = y at c2 d2 hl
          clear hx hy
          obtain ⟨sp, d, h1, h2, h3⟩ := pmvL_step hl
          have F1 := run_float_arith (P := Tryz.prog) w .mul 122 .f64 _ _ sp h1
          have F2 := run_float_arith (P := Tryz.prog) w .sub 122 .f64 _ _ d h2
          clear h1 h2 hl
          rcases h3 with ⟨h3, h4⟩ | ⟨h3, acc', h4, h5⟩
          · have H4 := Lib.hid h4
            clear h4
            by_cases hs : (fOrd d 0 == some .lt) = true
            · have e : absF d = Op.negFloat .f64 d := if_pos hs
              rw [e] at h3
              clear e
              go_wp2_with fail
              refine (inf_any w).mono ?_
              rintro e w' ⟨rfl, rfl⟩
              go_wp2
              go_ret
              refine ⟨ret_float ?_, rfl⟩
              rcases HE.out with ⟨_, e⟩ | ⟨t, e, _⟩
              · exact e.symm
              · rw [H4.out] at e; cases e
            · have e : absF d = d := if_neg hs
              have hs' : (fOrd d 0 == some .lt) = false := by simpa using hs
              rw [e] at h3
              clear e hs
              go_wp2_with fail
              refine (inf_any w).mono ?_
              rintro e w' ⟨rfl, rfl⟩
              go_wp2
              go_ret
              refine ⟨ret_float ?_, rfl⟩
              rcases HE.out with ⟨_, e⟩ | ⟨t, e, _⟩
              · exact e.symm
              · rw [H4.out] at e; cases e
          · have H5 := Lib.hid h5
            have F3 := run_float_arith (P := Tryz.prog) w .add 122 .f64 _ _ acc' h4
            clear h5 h4
            by_cases hs : (fOrd d 0 == some .lt) = true
            · have e : absF d = Op.negFloat .f64 d := if_pos hs
              rw [e] at h3 F3
              clear e
              go_wp2
              go_round
              case rel => exact ⟨j + 1, acc', by omega, rfl, by go_num, H5.out⟩
              case measure => simp [intOf]; omega
            · have e : absF d = d := if_neg hs
              have hs' : (fOrd d 0 == some .lt) = false := by simpa using hs
              rw [e] at h3 F3
              clear e hs
              go_wp2
              go_round
              case rel => exact ⟨j + 1, acc', by omega, rfl, by go_num, H5.out⟩
              case measure => simp [intOf]; omega
        · have hjk : j = k := by omega
          subst hjk
          rw [zip_done cs ps j HCL.out HPL.out] at hl
          have hl' : res = some acc := (Option.some.inj hl).symm
          clear hl
          rcases HE.out with ⟨e, _⟩ | ⟨t, e, he⟩
          · rw [hl'] at e; cases e
          · rw [hl'] at e
            obtain rfl := Option.some.inj e
            clear e hl'
            have F1 := run_float_arith (P := Tryz.prog) w .quo 122 .f64 _ _ r he
            clear he
            go_wp2
            go_ret
            exact ⟨rfl, rfl⟩
end Go.Proofs.YtojngchcghabiaaGreatDoor
