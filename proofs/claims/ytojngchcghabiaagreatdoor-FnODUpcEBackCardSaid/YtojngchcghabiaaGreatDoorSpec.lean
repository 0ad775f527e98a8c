/- The digit check of a text and the check digit as a text (functions 14, 15). -/
import Derived.Test.YtojngchcghabiaaGreatDoorBytes
import Derived.Test.YtojngchcghabiaaGreatDoorItoa
namespace Go.Proofs.YtojngchcghabiaaGreatDoor
open Go Go.RowKit

/-- A text of n digits. -/
def IsDig (s : ByteArray) (n : Nat) : Prop := s.size = n ∧ ∀ i (h : i < s.size), 48 ≤ s[i].toNat ∧ s[i].toNat ≤ 57
theorem IsDig.says {s : ByteArray} {n : Nat} (h : IsDig s n) : ∃ ds, Says s n ds := by
  refine ⟨fun i => if h : i < s.size then min (s[i].toNat - 48) 9 else 0, h.1, fun i hi => ?_, fun i => ?_⟩
  · have := h.2 i hi
    show s[i].toNat = 48 + (if h : i < s.size then min (s[i].toNat - 48) 9 else 0)
    rw [dif_pos hi]
    omega
  · show (if h : i < s.size then min (s[i].toNat - 48) 9 else 0) < 10
    split <;> omega
theorem Says.isDig {s : ByteArray} {n : Nat} {ds : Nat → Nat} (h : Says s n ds) : IsDig s n :=
  ⟨h.size, fun i hi => by have := h.byte i hi; have := h.dig i; omega⟩

set_option maxHeartbeats 1000000 in
theorem digits_yes (s : ByteArray) (n : Nat) (w : World) (h : IsDig s n) (hn : n ≤ 100) :
    Calls Tryz.prog 14 #[.string s, .int .i64 n] w fun e w' => e = .returned (.bool true) ∧ w = w' := by
  obtain ⟨rfl, hb⟩ := h
  have HB := Lib.hid hb
  clear hb
  have hne : ((s.size : Int) != (s.size : Int)) = false := by simp
  go_enter Tryz.func14, Tryz.ntmps14
  go_wp2
  go_loop [11] (fun i => ∃ k : Nat, k ≤ s.size ∧ i = .int .i64 k) (fun i => s.size - (intOf i).toNat)
  case atStart => exact ⟨0, by omega, rfl⟩
  case round =>
    obtain ⟨k, hk, rfl⟩ := hrel
    by_cases hks : k < s.size
    · have hb1 := (HB.out k hks).1
      have hb2 := (HB.out k hks).2
      go_wp2
      go_round
      case rel => exact ⟨k + 1, by omega, by go_num⟩
      case measure => simp [intOf]; omega
    · go_wp2
      go_ret
      exact ⟨rfl, rfl⟩

set_option maxHeartbeats 1000000 in
theorem digits_no (s : ByteArray) (n : Nat) (w : World) (h : ¬ IsDig s n) (hs : s.size ≤ 2147483647) (hn : n ≤ 100) :
    Calls Tryz.prog 14 #[.string s, .int .i64 n] w fun e w' => e = .returned (.bool false) ∧ w = w' := by
  by_cases hsz : s.size = n
  · subst hsz
    have hne : ((s.size : Int) != (s.size : Int)) = false := by simp
    have H := Lib.hid h
    clear h
    go_enter Tryz.func14, Tryz.ntmps14
    go_wp2
    go_loop [11] (fun i => ∃ k : Nat, k ≤ s.size ∧ i = .int .i64 k ∧ ∀ j (h : j < s.size), j < k → 48 ≤ s[j].toNat ∧ s[j].toNat ≤ 57) (fun i => s.size - (intOf i).toNat)
    case atStart => exact ⟨0, by omega, rfl, fun j _ h => by omega⟩
    case round =>
      obtain ⟨k, hk, rfl, hall⟩ := hrel
      have HA := Lib.hid hall
      clear hall
      by_cases hks : k < s.size
      · by_cases hd : 48 ≤ s[k].toNat ∧ s[k].toNat ≤ 57
        · have hb1 := hd.1
          have hb2 := hd.2
          have HD := Lib.hid hd
          clear hd
          go_wp2
          go_round
          case rel =>
            refine ⟨k + 1, by omega, by go_num, fun j hj hjk => ?_⟩
            by_cases hjk2 : j < k
            · exact HA.out j hj hjk2
            · obtain rfl : j = k := by omega
              exact HD.out
          case measure => simp [intOf]; omega
        · by_cases h48 : s[k].toNat < 48
          · clear hd
            go_wp2
            go_ret
            exact ⟨rfl, rfl⟩
          · have h57 : 57 < s[k].toNat := by omega
            clear hd
            go_wp2
            go_ret
            exact ⟨rfl, rfl⟩
      · exact absurd ⟨rfl, fun j hj => HA.out j hj (by omega)⟩ H.out
  · have hne : ((s.size : Int) != (n : Int)) = true := by simp; omega
    clear h hsz
    go_enter Tryz.func14, Tryz.ntmps14
    go_wp2
    go_ret
    exact ⟨rfl, rfl⟩

/-- The sum of the first k from the end back, each first one times 3, each second one once; and the other way about. -/
def back3 (ds : Nat → Nat) (n : Nat) : Nat → Nat
  | 0 => 0
  | k + 1 => back3 ds n k + (if k % 2 = 0 then 3 else 1) * ds (n - 1 - k)
def back1 (ds : Nat → Nat) (n : Nat) : Nat → Nat
  | 0 => 0
  | k + 1 => back1 ds n k + (if k % 2 = 0 then 1 else 3) * ds (n - 1 - k)
theorem back_head (ds : Nat → Nat) (n : Nat) : ∀ k, back3 ds (n + 1) (k + 1) = 3 * ds n + back1 ds n k ∧ back1 ds (n + 1) (k + 1) = ds n + back3 ds n k
  | 0 => by simp [back3, back1]
  | k + 1 => by
    obtain ⟨h1, h2⟩ := back_head ds n k
    have e : n + 1 - 1 - (k + 1) = n - 1 - k := by omega
    have s1 : back3 ds (n + 1) (k + 1 + 1) = back3 ds (n + 1) (k + 1) + (if (k + 1) % 2 = 0 then 3 else 1) * ds (n + 1 - 1 - (k + 1)) := rfl
    have s2 : back1 ds (n + 1) (k + 1 + 1) = back1 ds (n + 1) (k + 1) + (if (k + 1) % 2 = 0 then 1 else 3) * ds (n + 1 - 1 - (k + 1)) := rfl
    have s3 : back3 ds n (k + 1) = back3 ds n k + (if k % 2 = 0 then 3 else 1) * ds (n - 1 - k) := rfl
    have s4 : back1 ds n (k + 1) = back1 ds n k + (if k % 2 = 0 then 1 else 3) * ds (n - 1 - k) := rfl
    rw [e] at s1 s2
    rcases Nat.mod_two_eq_zero_or_one k with hk | hk
    · rw [if_neg (by omega)] at s1 s2; rw [if_pos hk] at s3 s4; omega
    · rw [if_pos (by omega)] at s1 s2; rw [if_neg (by omega)] at s3 s4; omega
theorem back_all (ds : Nat → Nat) : ∀ n, back3 ds n n = 3 * alt ds n + alt ds (n - 1) ∧ back1 ds n n = alt ds n + 3 * alt ds (n - 1)
  | 0 => by simp [back3, back1, alt]
  | n + 1 => by
    obtain ⟨h1, h2⟩ := back_all ds n
    obtain ⟨h3, h4⟩ := back_head ds n n
    have ha := alt_back ds (n + 1) (by omega)
    simp only [Nat.add_sub_cancel] at ha ⊢
    rw [h3, h4, h1, h2, ha, show n + 1 - 2 = n - 1 by omega]
    omega
theorem back3_le (ds : Nat → Nat) (n : Nat) (h : ∀ i, ds i < 10) : ∀ k, back3 ds n k ≤ 27 * k
  | 0 => by simp [back3]
  | k + 1 => by
    have := back3_le ds n h k
    have := h (n - 1 - k)
    rw [back3]
    split <;> omega

set_option maxHeartbeats 1000000 in
/-- ODCheck: the check digit as a text. -/
theorem odCheck_any (s : ByteArray) (n : Nat) (ds : Nat → Nat) (w : World) (h : Says s n ds) (hn : n ≤ 13) :
    Calls Tryz.prog 15 #[.string s] w fun e w' => e = .returned (.string (one (chd ds n))) ∧ w = w' := by
  have H := Lib.hid h
  have HSZ := Lib.hid h.size
  have hs1 : s.size ≤ 13 := by have := h.size; omega
  clear h
  go_enter Tryz.func15, Tryz.ntmps15
  go_wp2
  go_loop [3, 8] (fun a i => ∃ k : Nat, k ≤ s.size ∧ a = .int .i64 (back3 ds n k : Nat) ∧ i = .int .i64 k) (fun _ i => s.size - (intOf i).toNat)
  case atStart => exact ⟨0, by omega, rfl, rfl⟩
  case round =>
    obtain ⟨k, hk, rfl, rfl⟩ := hrel
    have hle := back3_le ds n H.out.dig k
    by_cases hks : k < s.size
    · have hj : s.size - 1 - k < s.size := by omega
      have hb := H.out.byte (s.size - 1 - k) hj
      have hd := H.out.dig (s.size - 1 - k)
      have hst : back3 ds n (k + 1) = back3 ds n k + (if k % 2 = 0 then 3 else 1) * ds (s.size - 1 - k) := by rw [back3, HSZ.out]
      have HX := Lib.hid (And.intro hb hst)
      have hb1 : 48 ≤ s[s.size - 1 - k].toNat := by omega
      have hb2 : s[s.size - 1 - k].toNat ≤ 57 := by omega
      clear hb hst hd
      generalize back3 ds n k = S at *
      rcases Nat.mod_two_eq_zero_or_one k with hk2 | hk2
      · have hm : ((k : Int) % 2 == 0) = true := by simp; omega
        have HM := Lib.hid hk2
        clear hk2
        go_wp2
        go_round
        case rel =>
          obtain ⟨hb, hst⟩ := HX.out
          refine ⟨k + 1, by omega, ?_, by go_num⟩
          rw [hst, if_pos HM.out, hb]
          go_num
        case measure => simp [intOf]; omega
      · have hm : ((k : Int) % 2 == 0) = false := by simp; omega
        have HM := Lib.hid hk2
        clear hk2
        go_wp2
        go_round
        case rel =>
          obtain ⟨hb, hst⟩ := HX.out
          refine ⟨k + 1, by omega, ?_, by go_num⟩
          rw [hst, if_neg (by have := HM.out; omega), hb]
          go_num
        case measure => simp [intOf]; omega
    · have hk' : k = n := by have := HSZ.out; omega
      have hns : ¬ n < s.size := by omega
      have hall := (back_all ds n).1
      rw [hk'] at hle ⊢
      rw [hall] at hle ⊢
      have e1 : 3 * alt ds n + alt ds (n - 1) = chk ds n := rfl
      rw [e1] at hle ⊢
      have hcd : chd ds n = (10 - chk ds n % 10) % 10 := by unfold chd; omega
      have HC := Lib.hid hcd
      clear hcd hall e1 hk'
      generalize chk ds n = S at *
      have hlt : chd ds n < 10 := by have := HC.out; omega
      have hv : (48 : Int) + -((S : Int) % 10) % 10 = ((48 + chd ds n : Nat) : Int) := by have := HC.out; omega
      have HV := Lib.hid hv
      clear hv
      go_wp2
      go_ret
      refine ⟨?_, rfl⟩
      have e : Utf8.encode (48 + -((S : Int) % 10) % 10) = one (chd ds n) := by
        rw [HV.out]
        generalize chd ds n = c at hlt
        have : c = 0 ∨ c = 1 ∨ c = 2 ∨ c = 3 ∨ c = 4 ∨ c = 5 ∨ c = 6 ∨ c = 7 ∨ c = 8 ∨ c = 9 := by omega
        rcases this with rfl | rfl | rfl | rfl | rfl | rfl | rfl | rfl | rfl | rfl <;> rfl
      exact congrArg (fun x => Ending.returned (.string x)) e
end Go.Proofs.YtojngchcghabiaaGreatDoor
