import Derived.Test.YbulkbbvkRows
import Derived.WalkKit
import Derived.ProofKit
import Derived.OpenShut
import Derived.Deep.QuietTactic
import Derived.BigQuiet
namespace Go.Proofs.Ybulkbbvk
open Go.ChangeShapes Go.WideShapes Go.ChangeAt Go.RowKit

/-- is the byte a decimal digit? -/
def digB (c : Int) : Bool := decide (48 ≤ c ∧ c ≤ 57)
theorem digB_t {c : Int} (h1 : 48 ≤ c) (h2 : c ≤ 57) : digB c = true := by simp [digB, h1, h2]
theorem digB_f1 {c : Int} (h1 : ¬ 48 ≤ c) : digB c = false := by simp [digB, h1]
theorem digB_f2 {c : Int} (h1 : ¬ c ≤ 57) : digB c = false := by simp [digB, h1]

set_option maxHeartbeats 400000 in
theorem isDigit_any (c : Int) (w : World) :
    Calls Yba.prog 7 #[.int .u8 c] w fun e w' => e = .returned (.bool (digB c)) ∧ w' = w := by
  by_cases h1 : 48 ≤ c
  · by_cases h2 : c ≤ 57
    · rw [digB_t h1 h2]
      go_enter Yba.func7, Yba.ntmps7
      go_wp2
      go_ret
      exact ⟨rfl, rfl⟩
    · rw [digB_f2 h2]
      go_enter Yba.func7, Yba.ntmps7
      go_wp2
      go_ret
      exact ⟨rfl, rfl⟩
  · rw [digB_f1 h1]
    go_enter Yba.func7, Yba.ntmps7
    go_wp2
    go_ret
    exact ⟨rfl, rfl⟩

set_option maxHeartbeats 400000 in
theorem zdigit_any (c : Int) (w : World) :
    Calls Yba.prog 6 #[.int .u8 c] w fun e w' => e = .returned (.bool (digB c)) ∧ w' = w := by
  by_cases h1 : 48 ≤ c
  · by_cases h2 : c ≤ 57
    · rw [digB_t h1 h2]
      go_enter Yba.func6, Yba.ntmps6
      go_wp2
      go_ret
      exact ⟨rfl, rfl⟩
    · rw [digB_f2 h2]
      go_enter Yba.func6, Yba.ntmps6
      go_wp2
      go_ret
      exact ⟨rfl, rfl⟩
  · rw [digB_f1 h1]
    go_enter Yba.func6, Yba.ntmps6
    go_wp2
    go_ret
    exact ⟨rfl, rfl⟩

/-- what digitsEnd's answer r is, for a start n. -/
structure EndOf (s : ByteArray) (n r : Nat) : Prop where
  ge : n ≤ r
  le : r ≤ s.size ∨ r = n
  all : ∀ k, n ≤ k → k < r → (h : k < s.size) → digB (s[k].toNat : Int) = true
  stop : (h : r < s.size) → digB (s[r].toNat : Int) = false

set_option maxHeartbeats 400000 in
theorem end_nat (s : ByteArray) (n : Nat) (hs : s.size ≤ 4096) (w : World) :
    Calls Yba.prog 5 #[.string s, .int .i64 (n : Int)] w fun e w' => ∃ r : Nat, e = .returned (.int .i64 (r : Int)) ∧ w' = w ∧ EndOf s n r := by
  go_enter Yba.func5, Yba.ntmps5
  go_wp2
  go_loop [5] (fun i => ∃ k : Nat, i = .int .i64 k ∧ n ≤ k ∧ (k ≤ s.size ∨ k = n) ∧ Hid (∀ j, n ≤ j → j < k → (h : j < s.size) → digB (s[j].toNat : Int) = true)) (fun i => s.size - (intOf i).toNat)
  case atStart => exact ⟨n, rfl, Nat.le_refl _, Or.inr rfl, fun j h1 h2 => by omega⟩
  case round =>
    obtain ⟨k, rfl, hk1, hk2, HA⟩ := hrel
    by_cases hlt : k < s.size
    · cases hd : digB (s[k].toNat : Int)
      · have HD : Hid (digB (s[k].toNat : Int) = false) := hd
        clear hd
        go_wp2_with (go_at_call 7; refine (isDigit_any _ _).mono ?_; rw [HD.out]; rintro e w' ⟨rfl, rfl⟩)
        go_ret
        exact ⟨k, rfl, rfl, hk1, hk2, HA.out, fun _ => HD.out⟩
      · have HD : Hid (digB (s[k].toNat : Int) = true) := hd
        clear hd
        go_wp2_with (go_at_call 7; refine (isDigit_any _ _).mono ?_; rw [HD.out]; rintro e w' ⟨rfl, rfl⟩)
        go_round
        case rel =>
          refine ⟨k + 1, by go_num, by omega, by omega, fun j h1 h2 h3 => ?_⟩
          by_cases e : j = k
          · subst e; exact HD.out
          · exact HA.out j h1 (by omega) h3
        case measure => simp [intOf]; omega
    · go_wp2
      go_ret
      exact ⟨k, rfl, rfl, hk1, hk2, HA.out, fun h => absurd h hlt⟩

theorem end_any (s : ByteArray) (i : Int) (h0 : 0 ≤ i) (hs : s.size ≤ 4096) (w : World) :
    Calls Yba.prog 5 #[.string s, .int .i64 i] w fun e w' => ∃ r : Nat, e = .returned (.int .i64 (r : Int)) ∧ w' = w ∧ EndOf s i.toNat r := by
  obtain ⟨n, rfl⟩ := Int.eq_ofNat_of_zero_le h0
  rw [Int.toNat_natCast]
  exact end_nat s n hs w
end Go.Proofs.Ybulkbbvk
