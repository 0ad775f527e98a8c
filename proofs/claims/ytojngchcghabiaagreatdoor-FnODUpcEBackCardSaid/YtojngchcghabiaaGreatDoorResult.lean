/-
  The walks over a result's metadata and its text.
-/
import Derived.Test.YtojngchcghabiaaGreatDoorEnds
import Derived.Maps.OwnOps
namespace Go.Proofs.YtojngchcghabiaaGreatDoor
open Go Go.RowKit Go.Maps

theorem Tryz.underlying69 : Tryz.prog.underlying 69 = some (.map 139 20) := by kernel_rfl
theorem Tryz.underlying139 : Tryz.prog.underlying 139 = some (.int .i64) := by kernel_rfl
theorem key139 : Keyed Tryz.prog 139 := int_keyed Tryz.underlying139

/-- Whatever an element is. -/
def anyElem (_ : Value) : Option (DataW Unit × List MemPlace) := some (.nil, [])

/-- A result: its text, and its metadata, which are none or a map of the call's own. -/
def Res (w : World) (pr : Nat) (s : ByteArray) (gp : Nat) (f : Int) (mp : Value) : Prop :=
  Whole w pr 71 [.string s, .slice none 0 0, .int .i64 0, .slice (some ⟨gp, 0, none⟩) 2 2, .int .i64 f, mp, .int .i64 0]

set_option maxRecDepth 100000 in
set_option maxHeartbeats 1000000 in
/-- PutMetadata into a result without metadata. -/
theorem put_first (pr gp : Nat) (s : ByteArray) (f k : Int) (t : TypeId) (v : Value) (w : World) (hR : Res w pr s gp f (.map none)) (hk : 0 ≤ k ∧ k ≤ 100) :
    Calls Tryz.prog 67 #[.pointer (some ⟨pr, 0, none⟩), .int .i64 k, .iface t v] w fun e w' => e = .returned (.tuple #[]) ∧ ∃ b D, Res w' pr s gp f (.map (some b)) ∧ w'.ownsMap Tryz.prog 139 anyElem b 1 D ∧ w.heap.size ≤ b ∧ Left' (some pr) w w' := by
  have hlt := hR.lt
  have q1 : ∀ (w : World) (r : Option Nat), (binOp .eql 69 (.map r) (.map none)).run Tryz.prog w = .ok (.bool r.isNone) w := fun w r => run_eql_map_nil w _ _ _ r Tryz.underlying69
  have hmm : ∀ w : World, (Instr.makeMap 69 (some (.int .i64 1))).run Tryz.prog w = .ok (.map (some w.heap.size)) (w.alloc (.map #[] 0)) := fun w => by
    simp [Instr.makeMap, run_underlying Tryz.underlying69]; rfl
  have hc : w.cell? ⟨pr, 5, none⟩ = some (.map none) := hR.cell 5
  have hf := hR.frozen 5
  have hkey : keyOf Tryz.prog 139 (.int .i64 k) = some (.int .i64 k) := keyOf_int_mk Tryz.underlying139 (WalkArith.wf_i64 (by omega))
  have HK := Lib.hid hkey
  have HR := Lib.hid hR
  have hL1 : Left' (some pr) w (w.setCell ⟨pr, 5, none⟩ (.map (some w.heap.size))) := (Left'.refl w (some pr)).setCell (.inl rfl) _
  have hR1 := hR.set 5 (.map (some w.heap.size))
  have hz : (w.setCell ⟨pr, 5, none⟩ (.map (some w.heap.size))).heap.size = w.heap.size := by simp [World.setCell]
  have hM1 := World.ownsMap_made (w.setCell ⟨pr, 5, none⟩ (.map (some w.heap.size))) Tryz.prog 139 anyElem
  rw [hz] at hM1
  have HM1 := Lib.hid hM1
  have HL1 := Lib.hid hL1
  have HR1 := Lib.hid hR1
  clear hR hkey hM1 hL1 hR1 hz HR
  go_enter Tryz.func67, Tryz.ntmps67
  go_wp2_with (refine wpList_mapUpdate_own _ rfl (.tmp 18) (.tmp 19) (.tmp 20) 69 rfl 139 20 key139 Tryz.underlying69 anyElem w.heap.size 0 _ rfl HM1.out (by unfold maxLen; omega) _ _ _ rfl rfl HK.out .nil [] rfl ?_)
  intro w2 hM2 hL2
  have hA : Left' none (w.setCell ⟨pr, 5, none⟩ (.map (some w.heap.size))) ((w.setCell ⟨pr, 5, none⟩ (.map (some w.heap.size))).alloc (.map #[] 0)) := (Left'.refl _ none).alloc _
  have HF := Lib.hid (And.intro hM2 (And.intro ((HR1.out.left hA (by simp)).left hL2 (by simp; omega)) ((HL1.out.trans hA.of_none).own hL2 (fun g e => .inr (by simp at e; omega)))))
  clear hM2 hL2 hA
  go_wp2
  go_end0
  exact ⟨rfl, _, _, HF.out.2.1, HF.out.1, Nat.le_refl _, HF.out.2.2⟩

set_option maxRecDepth 100000 in
set_option maxHeartbeats 1000000 in
/-- PutMetadata into a result that has some. -/
theorem put_more (pr gp b n : Nat) (D : DataW Unit) (s : ByteArray) (f k : Int) (t : TypeId) (v : Value) (w : World) (hR : Res w pr s gp f (.map (some b))) (hM : w.ownsMap Tryz.prog 139 anyElem b n D) (hn : n ≤ 100) (hk : 0 ≤ k ∧ k ≤ 100) :
    Calls Tryz.prog 67 #[.pointer (some ⟨pr, 0, none⟩), .int .i64 k, .iface t v] w fun e w' => e = .returned (.tuple #[]) ∧ Res w' pr s gp f (.map (some b)) ∧ Left' (some b) w w' := by
  have hlt := hR.lt
  have q1 : ∀ (w : World) (r : Option Nat), (binOp .eql 69 (.map r) (.map none)).run Tryz.prog w = .ok (.bool r.isNone) w := fun w r => run_eql_map_nil w _ _ _ r Tryz.underlying69
  have hc : w.cell? ⟨pr, 5, none⟩ = some (.map (some b)) := hR.cell 5
  have hkey : keyOf Tryz.prog 139 (.int .i64 k) = some (.int .i64 k) := keyOf_int_mk Tryz.underlying139 (WalkArith.wf_i64 (by omega))
  have hne : b ≠ pr := by
    rintro rfl
    obtain ⟨es, cl, hb, _⟩ := hM
    unfold Res Whole at hR
    rw [hR] at hb
    cases hb
  have HK := Lib.hid hkey
  have HR := Lib.hid hR
  have HM := Lib.hid hM
  clear hR hkey hM
  go_enter Tryz.func67, Tryz.ntmps67
  go_wp2_with (refine wpList_mapUpdate_own _ rfl (.tmp 18) (.tmp 19) (.tmp 20) 69 rfl 139 20 key139 Tryz.underlying69 anyElem b n _ rfl HM.out (by unfold maxLen; omega) _ _ _ rfl rfl HK.out .nil [] rfl ?_)
  intro w2 hM2 hL2
  have HF := Lib.hid (And.intro (HR.out.left hL2 (by simpa using hne)) hL2)
  clear hM2 hL2
  go_wp2
  go_end0
  exact ⟨rfl, HF.out.1, HF.out.2⟩

/-- GetText. -/
theorem text_any (pr gp : Nat) (s : ByteArray) (f : Int) (mp : Value) (w : World) (hR : Res w pr s gp f mp) :
    Calls Tryz.prog 28 #[.pointer (some ⟨pr, 0, none⟩)] w fun e w' => e = .returned (.string s) ∧ w = w' := by
  have hc : w.cell? ⟨pr, 0, none⟩ = some (.string s) := hR.cell 0
  clear hR
  go_enter Tryz.func28, Tryz.ntmps28
  go_wp2
  go_ret
  exact ⟨rfl, rfl⟩
end Go.Proofs.YtojngchcghabiaaGreatDoor
