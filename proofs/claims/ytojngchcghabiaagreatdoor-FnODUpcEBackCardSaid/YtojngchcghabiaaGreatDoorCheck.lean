/-
  The walks over the check digit by the standard.
-/
import Derived.Test.YtojngchcghabiaaGreatDoorMidEight
namespace Go.Proofs.YtojngchcghabiaaGreatDoor
open Go Go.RowKit

/-- A text that says n digits. -/
structure Says (s : ByteArray) (n : Nat) (ds : Nat → Nat) : Prop where
  size : s.size = n
  byte : ∀ i (h : i < s.size), s[i].toNat = 48 + ds i
  dig : ∀ i, ds i < 10

/-- Each second digit, from the last of the first k back. -/
def alt (ds : Nat → Nat) : Nat → Nat
  | 0 => 0
  | 1 => ds 0
  | k + 2 => ds (k + 1) + alt ds k
theorem alt_le (ds : Nat → Nat) (h : ∀ i, ds i < 10) : ∀ k, alt ds k ≤ 9 * k
  | 0 => by simp [alt]
  | 1 => by have := h 0; simp [alt]; omega
  | k + 2 => by have := alt_le ds h k; have := h (k + 1); simp only [alt]; omega
theorem alt_back (ds : Nat → Nat) (k : Nat) (hk : 0 < k) : alt ds k = ds (k - 1) + alt ds (k - 2) := by
  match k, hk with
  | 1, _ => simp [alt]
  | k + 2, _ => simp [alt]

/-- The sum that the check digit is reckoned by. -/
def chk (ds : Nat → Nat) (n : Nat) : Nat := 3 * alt ds n + alt ds (n - 1)

set_option maxHeartbeats 1000000 in
theorem standard_any (s : ByteArray) (n : Nat) (ds : Nat → Nat) (w : World) (h : Says s n ds) (hn0 : 0 < n) (hn : n ≤ 13) :
    Calls Tryz.prog 45 #[.string s] w fun e w' => e = .returned (.tuple #[.int .i64 (((1000 - chk ds n) % 10 : Nat) : Int), .nilIface]) ∧ w = w' := by
  have H := Lib.hid h
  have hsz := h.size
  have hs1 : s.size ≤ 13 := by omega
  have HSZ := Lib.hid hsz
  clear h hsz
  go_enter Tryz.func45, Tryz.ntmps45
  go_wp2
  go_loop [5, 6] (fun a i => ∃ (S : Nat) (v : Int), a = .int .i64 (S : Int) ∧ i = .int .i64 v ∧ S ≤ 9 * n ∧ ((∃ j : Nat, v = j ∧ j + 1 ≤ n ∧ S + alt ds (j + 1) = alt ds n) ∨ (v < 0 ∧ -2 ≤ v ∧ S = alt ds n))) (fun _ i => (intOf i + 2).toNat)
  case atStart => exact ⟨0, _, rfl, rfl, by omega, .inl ⟨n - 1, by have := HSZ.out; omega, by omega, by rw [show n - 1 + 1 = n by omega]; omega⟩⟩
  case round =>
    obtain ⟨S, v, rfl, rfl, hS, h⟩ := hrel
    rcases h with ⟨j, rfl, hj, he⟩ | ⟨hv, hv2, he⟩
    · have hjs : j < s.size := by have := HSZ.out; omega
      have hb := H.out.byte j hjs
      have hd := H.out.dig j
      have ha := alt_back ds (j + 1) (by omega)
      have hle := alt_le ds H.out.dig n
      have HX := Lib.hid (And.intro he (And.intro hb ha))
      have hb1 : 48 ≤ s[j].toNat := by omega
      have hb2 : s[j].toNat ≤ 57 := by omega
      clear he hb ha hd
      go_wp2
      go_round
      case rel =>
        obtain ⟨he, hb, ha⟩ := HX.out
        simp only [Nat.add_sub_cancel] at ha
        refine ⟨S + ds j, (j : Int) - 2, ?_, rfl, by omega, ?_⟩
        · rw [hb]; go_num
        · by_cases hj2 : 2 ≤ j
          · left
            refine ⟨j - 2, by omega, by omega, ?_⟩
            rw [show j - 2 + 1 = j + 1 - 2 by omega]; omega
          · right
            refine ⟨by omega, by omega, ?_⟩
            have : alt ds (j + 1 - 2) = 0 := by rw [show j + 1 - 2 = 0 by omega]; rfl
            omega
      case measure => simp [intOf]; omega
    · have hle := alt_le ds H.out.dig n
      have HE := Lib.hid he
      clear he
      go_wp2
      have hle2 := alt_le ds H.out.dig (n - 1)
      go_loop [5, 8] (fun a i => ∃ (T : Nat) (v : Int), a = .int .i64 ((S : Int) * 3 + (T : Int)) ∧ i = .int .i64 v ∧ T ≤ 9 * n ∧ ((∃ j : Nat, v = j ∧ j + 2 ≤ n ∧ T + alt ds (j + 1) = alt ds (n - 1)) ∨ (v < 0 ∧ -2 ≤ v ∧ T = alt ds (n - 1)))) (fun _ i => (intOf i + 2).toNat)
      case atStart =>
        refine ⟨0, _, by simp, rfl, by omega, ?_⟩
        by_cases hn2 : 2 ≤ n
        · exact .inl ⟨n - 2, by have := HSZ.out; omega, by omega, by rw [show n - 2 + 1 = n - 1 by omega]; omega⟩
        · right
          refine ⟨by have := HSZ.out; omega, by have := HSZ.out; omega, ?_⟩
          rw [show n - 1 = 0 by omega]; rfl
      case round =>
        obtain ⟨T, v, rfl, rfl, hT, h⟩ := hrel
        rcases h with ⟨j, rfl, hj, he⟩ | ⟨hv, hv2, he⟩
        · have hjs : j < s.size := by have := HSZ.out; omega
          have hb := H.out.byte j hjs
          have hd := H.out.dig j
          have ha := alt_back ds (j + 1) (by omega)
          have HX := Lib.hid (And.intro he (And.intro hb ha))
          have hb1 : 48 ≤ s[j].toNat := by omega
          have hb2 : s[j].toNat ≤ 57 := by omega
          clear he hb ha hd
          go_wp2
          go_round
          case rel =>
            obtain ⟨he, hb, ha⟩ := HX.out
            simp only [Nat.add_sub_cancel] at ha
            refine ⟨T + ds j, (j : Int) - 2, ?_, rfl, by omega, ?_⟩
            · rw [hb]; go_num
            · by_cases hj2 : 2 ≤ j
              · left
                refine ⟨j - 2, by omega, by omega, ?_⟩
                rw [show j - 2 + 1 = j + 1 - 2 by omega]; omega
              · right
                refine ⟨by omega, by omega, ?_⟩
                have : alt ds (j + 1 - 2) = 0 := by rw [show j + 1 - 2 = 0 by omega]; rfl
                omega
          case measure => simp [intOf]; omega
        · have HE2 := Lib.hid he
          clear he
          go_wp2
          go_ret2
          refine ⟨?_, rfl⟩
          have e : (1000 - ((S : Int) * 3 + (T : Int))) % 10 = (((1000 - chk ds n) % 10 : Nat) : Int) := by
            have h1 := HE.out
            have h2 := HE2.out
            unfold chk
            omega
          exact congrArg (fun x => Ending.returned (.tuple #[.int .i64 x, .nilIface])) e

/-- The check digit by the standard. -/
def chd (ds : Nat → Nat) (n : Nat) : Nat := (1000 - chk ds n) % 10

theorem Says.init {s : ByteArray} {n : Nat} {ds : Nat → Nat} (h : Says s n ds) (k : Nat) (hk : k ≤ n) : Says (s.extract 0 k) k ds :=
  ⟨by rw [ByteArray.size_extract, h.size]; omega, fun i hi => by
    rw [ByteArray.size_extract] at hi
    rw [ByteArray.getElem_extract]
    have := h.byte (0 + i) (by omega)
    rw [this]; simp, h.dig⟩

theorem ret_pair {a b c : Value} (h : a = b) : Ending.returned (.tuple #[a, c]) = .returned (.tuple #[b, c]) := by rw [h]

set_option maxHeartbeats 1000000 in
/-- checkStandardUPCEANChecksum of n + 1 digits, the last of them the check digit. -/
theorem standardOk_any (s : ByteArray) (n : Nat) (ds : Nat → Nat) (w : World) (h : Says s (n + 1) ds) (hn0 : 0 < n) (hn : n ≤ 13) (hc : ds n = chd ds n) :
    Calls Tryz.prog 48 #[.string s] w fun e w' => e = .returned (.tuple #[.bool true, .nilIface]) ∧ w = w' := by
  obtain rfl : n = s.size - 1 := by have := h.size; omega
  have hs1 : s.size ≤ 14 := by omega
  have hs2 : 1 < s.size := by omega
  have hb := h.byte (s.size - 1) (by omega)
  have hd := h.dig (s.size - 1)
  have HP := Lib.hid (h.init (s.size - 1) (by omega))
  have HX := Lib.hid (And.intro hb hc)
  have hb1 : 48 ≤ s[s.size - 1].toNat := by omega
  have hb2 : s[s.size - 1].toNat ≤ 57 := by omega
  clear h hc hb
  go_enter Tryz.func48, Tryz.ntmps48
  go_wp2_with fail
  refine (standard_any _ (s.size - 1) ds w HP.out hn0 hn).mono ?_
  rintro e w' ⟨rfl, rfl⟩
  have e1 : (((1000 - chk ds (s.size - 1)) % 10 : Nat) : Int) = (ds (s.size - 1) : Int) := by rw [HX.out.2]; rfl
  rw [e1]
  have e2 : ((ds (s.size - 1) : Int) == ((s[s.size - 1].toNat : Int) - 48)) = true := by have := HX.out.1; simp; omega
  clear e1
  go_wp2
  go_ret2
  exact ⟨rfl, rfl⟩
end Go.Proofs.YtojngchcghabiaaGreatDoor
