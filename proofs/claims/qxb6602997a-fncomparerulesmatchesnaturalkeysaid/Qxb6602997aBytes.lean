/-
  WALKS: the laws' own guards: zzBytes_.. (11, 14, 15, 20, 22, 25).
-/
import Derived.Test.Qxb6602997aRows
import Derived.WalkKit
import Derived.WalkLawsBesides
namespace Go.Proofs.Qxb6602997a
open Go.RowKit

def small1 (n : Nat) : Bool := decide (n ≤ 1048576)
def small2 (n m : Nat) : Bool := decide (n + m ≤ 1048576)
theorem small1_yes {n : Nat} (h : small1 n = true) : n ≤ 1048576 := by simpa [small1] using h
theorem small2_yes {n m : Nat} (h : small2 n m = true) : n + m ≤ 1048576 := by simpa [small2] using h
theorem ret_bool' {a b : Bool} (h : a = b) : Ending.returned (.bool a) = .returned (.bool b) := by rw [h]

theorem bytes11 (s : ByteArray) (i : Int) (w : World) (hs : s.size ≤ maxLen) :
    Calls Try.prog 11 #[.string s, .int .i64 i] w fun e w' => e = .returned (.bool (small1 s.size)) ∧ w' = w := by
  unfold maxLen at hs
  by_cases h : (s.size : Int) ≤ 1048576
  all_goals
    go_enter Try.func11, Try.ntmps11
    go_wp2
    go_ret
    exact ⟨ret_bool' (by simp [small1]; omega), rfl⟩

theorem bytes14 (s t : ByteArray) (i : Int) (w : World) (hs : s.size ≤ maxLen) (ht : t.size ≤ maxLen) :
    Calls Try.prog 14 #[.string s, .string t, .int .i64 i] w fun e w' => e = .returned (.bool (small2 s.size t.size)) ∧ w' = w := by
  unfold maxLen at hs ht
  by_cases h : (s.size : Int) ≤ 1048576
  · by_cases h2 : (t.size : Int) ≤ 1048576
    · by_cases h3 : (s.size : Int) + t.size ≤ 1048576
      all_goals
        go_enter Try.func14, Try.ntmps14
        go_wp2
        go_ret
        exact ⟨ret_bool' (by simp [small2]; omega), rfl⟩
    · go_enter Try.func14, Try.ntmps14
      go_wp2
      go_ret
      exact ⟨ret_bool' (by simp [small2]; omega), rfl⟩
  · go_enter Try.func14, Try.ntmps14
    go_wp2
    go_ret
    exact ⟨ret_bool' (by simp [small2]; omega), rfl⟩

theorem bytes15 (s t : ByteArray) (w : World) (hs : s.size ≤ maxLen) (ht : t.size ≤ maxLen) :
    Calls Try.prog 15 #[.string s, .string t] w fun e w' => e = .returned (.bool (small2 s.size t.size)) ∧ w' = w := by
  unfold maxLen at hs ht
  by_cases h : (s.size : Int) ≤ 1048576
  · by_cases h2 : (t.size : Int) ≤ 1048576
    · by_cases h3 : (s.size : Int) + t.size ≤ 1048576
      all_goals
        go_enter Try.func15, Try.ntmps15
        go_wp2
        go_ret
        exact ⟨ret_bool' (by simp [small2]; omega), rfl⟩
    · go_enter Try.func15, Try.ntmps15
      go_wp2
      go_ret
      exact ⟨ret_bool' (by simp [small2]; omega), rfl⟩
  · go_enter Try.func15, Try.ntmps15
    go_wp2
    go_ret
    exact ⟨ret_bool' (by simp [small2]; omega), rfl⟩

theorem bytes20 (s t : ByteArray) (w : World) (hs : s.size ≤ maxLen) (ht : t.size ≤ maxLen) :
    Calls Try.prog 20 #[.string s, .string t] w fun e w' => e = .returned (.bool (small2 s.size t.size)) ∧ w' = w := by
  unfold maxLen at hs ht
  by_cases h : (s.size : Int) ≤ 1048576
  · by_cases h2 : (t.size : Int) ≤ 1048576
    · by_cases h3 : (s.size : Int) + t.size ≤ 1048576
      all_goals
        go_enter Try.func20, Try.ntmps20
        go_wp2
        go_ret
        exact ⟨ret_bool' (by simp [small2]; omega), rfl⟩
    · go_enter Try.func20, Try.ntmps20
      go_wp2
      go_ret
      exact ⟨ret_bool' (by simp [small2]; omega), rfl⟩
  · go_enter Try.func20, Try.ntmps20
    go_wp2
    go_ret
    exact ⟨ret_bool' (by simp [small2]; omega), rfl⟩

theorem bytes22 (s t : ByteArray) (w : World) (hs : s.size ≤ maxLen) (ht : t.size ≤ maxLen) :
    Calls Try.prog 22 #[.string s, .string t] w fun e w' => e = .returned (.bool (small2 s.size t.size)) ∧ w' = w := by
  unfold maxLen at hs ht
  by_cases h : (s.size : Int) ≤ 1048576
  · by_cases h2 : (t.size : Int) ≤ 1048576
    · by_cases h3 : (s.size : Int) + t.size ≤ 1048576
      all_goals
        go_enter Try.func22, Try.ntmps22
        go_wp2
        go_ret
        exact ⟨ret_bool' (by simp [small2]; omega), rfl⟩
    · go_enter Try.func22, Try.ntmps22
      go_wp2
      go_ret
      exact ⟨ret_bool' (by simp [small2]; omega), rfl⟩
  · go_enter Try.func22, Try.ntmps22
    go_wp2
    go_ret
    exact ⟨ret_bool' (by simp [small2]; omega), rfl⟩

theorem bytes25 (s t : ByteArray) (w : World) (hs : s.size ≤ maxLen) (ht : t.size ≤ maxLen) :
    Calls Try.prog 25 #[.string s, .string t] w fun e w' => e = .returned (.bool (small2 s.size t.size)) ∧ w' = w := by
  unfold maxLen at hs ht
  by_cases h : (s.size : Int) ≤ 1048576
  · by_cases h2 : (t.size : Int) ≤ 1048576
    · by_cases h3 : (s.size : Int) + t.size ≤ 1048576
      all_goals
        go_enter Try.func25, Try.ntmps25
        go_wp2
        go_ret
        exact ⟨ret_bool' (by simp [small2]; omega), rfl⟩
    · go_enter Try.func25, Try.ntmps25
      go_wp2
      go_ret
      exact ⟨ret_bool' (by simp [small2]; omega), rfl⟩
  · go_enter Try.func25, Try.ntmps25
    go_wp2
    go_ret
    exact ⟨ret_bool' (by simp [small2]; omega), rfl⟩
end Go.Proofs.Qxb6602997a
