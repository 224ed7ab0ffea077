/-
  WALKS: compareNumbers (28), ZZcompareNumbers (17), zzSign (18).
-/
import Derived.Test.Qxb6602997aDigits
namespace Go.Proofs.Qxb6602997a
open Go.RowKit Plain

theorem less_yes {x y : ByteArray} (h : Op.bytesLess x.toList y.toList = true) : lx x.data.toList y.data.toList = -1 := by
  rw [Go.ByteArray.toList_eq, Go.ByteArray.toList_eq] at h; exact (less_iff _ _).1 h
theorem less_no {x y : ByteArray} (h : Op.bytesLess x.toList y.toList = false) : lx x.data.toList y.data.toList = 0 ∨ lx x.data.toList y.data.toList = 1 := by
  rw [Go.ByteArray.toList_eq, Go.ByteArray.toList_eq] at h
  have h1 : ¬ lx x.data.toList y.data.toList = -1 := fun e => by rw [(less_iff _ _).2 e] at h; simp at h
  have := lx_three x.data.toList y.data.toList
  omega
theorem same_iff {x y : ByteArray} : (x.toList == y.toList) = true ↔ x.data.toList = y.data.toList := by
  rw [Go.ByteArray.toList_eq, Go.ByteArray.toList_eq]; simp
theorem same_yes {x y : ByteArray} (h : (x.toList == y.toList) = true) : lx x.data.toList y.data.toList = 0 := by
  rw [same_iff.1 h]; exact lx_self _
theorem same_no {x y : ByteArray} (h : (x.toList == y.toList) = false) : lx x.data.toList y.data.toList ≠ 0 := by
  intro e; have := same_iff.2 ((lx_zero _ _).1 e); rw [h] at this; simp at this

set_option maxHeartbeats 400000 in
theorem cmp_any (x y : ByteArray) (w : World) (hx : x.size ≤ 4000000000000000000) (hy : y.size ≤ 4000000000000000000) :
    Calls Try.prog 28 #[.string x, .string y] w fun e w' => e = .returned (.int .i64 (cmpN x.data.toList y.data.toList)) ∧ w' = w := by
  have hlx := len_data x
  have hly := len_data y
  have HX : Hid (x.data.toList.length = x.size) := hlx
  have HY : Hid (y.data.toList.length = y.size) := hly
  clear hlx hly
  by_cases hl : ((x.size : Int) == (y.size : Int)) = true
  · have HE : Hid (x.data.toList.length = y.data.toList.length) := by
      have h' : (x.size : Int) = y.size := by simpa using hl
      have h : x.size = y.size := by omega
      have : x.data.toList.length = y.data.toList.length := by rw [HX.out, HY.out, h]
      exact this
    by_cases h1 : Op.bytesLess x.toList y.toList = true
    · have HA := less_yes h1
      have HL : Hid (lx x.data.toList y.data.toList = -1) := HA
      clear HA
      go_enter Try.func28, Try.ntmps28
      go_wp2
      go_ret
      exact ⟨ret_int (by unfold cmpN; rw [if_pos HE.out, HL.out]), rfl⟩
    · have h1' : Op.bytesLess x.toList y.toList = false := by simpa using h1
      clear h1
      by_cases h2 : (x.toList == y.toList) = true
      · have HA := same_yes h2
        have HL : Hid (lx x.data.toList y.data.toList = 0) := HA
        clear HA
        go_enter Try.func28, Try.ntmps28
        go_wp2
        go_ret
        exact ⟨ret_int (by unfold cmpN; rw [if_pos HE.out, HL.out]), rfl⟩
      · have h2' : (x.toList == y.toList) = false := by simpa using h2
        clear h2
        have HA : lx x.data.toList y.data.toList = 1 := by
          have := less_no h1'
          have := same_no h2'
          omega
        have HL : Hid (lx x.data.toList y.data.toList = 1) := HA
        clear HA
        go_enter Try.func28, Try.ntmps28
        go_wp2
        go_ret
        exact ⟨ret_int (by unfold cmpN; rw [if_pos HE.out, HL.out]), rfl⟩
  · have hl' : ((x.size : Int) == (y.size : Int)) = false := by simpa using hl
    have HE : Hid (¬ x.data.toList.length = y.data.toList.length) := by
      have h' : ¬ (x.size : Int) = y.size := by simpa using hl
      have h : ¬ x.size = y.size := by omega
      have : ¬ x.data.toList.length = y.data.toList.length := by rw [HX.out, HY.out]; exact h
      exact this
    clear hl
    go_enter Try.func28, Try.ntmps28
    go_wp2
    go_ret
    exact ⟨ret_int (by unfold cmpN; rw [if_neg HE.out, HX.out, HY.out]), rfl⟩

theorem ZZcmp_any (x y : ByteArray) (w : World) (hx : x.size ≤ 4000000000000000000) (hy : y.size ≤ 4000000000000000000) :
    Calls Try.prog 17 #[.string x, .string y] w fun e w' => e = .returned (.int .i64 (cmpN x.data.toList y.data.toList)) ∧ w' = w := by
  go_enter Try.func17, Try.ntmps17
  go_wp2_with (go_at_call 28; refine (cmp_any _ _ _ hx hy).mono ?_; rintro e w' ⟨rfl, rfl⟩)
  go_ret
  exact ⟨rfl, rfl⟩

theorem sign_any (n : Int) (w : World) :
    Calls Try.prog 18 #[.int .i64 n] w fun e w' => e = .returned (.int .i64 (sgn n)) ∧ w' = w := by
  by_cases h1 : n < 0
  · go_enter Try.func18, Try.ntmps18
    go_wp2
    go_ret
    exact ⟨ret_int (by unfold sgn; rw [if_pos h1]), rfl⟩
  · by_cases h2 : 0 < n
    all_goals
      go_enter Try.func18, Try.ntmps18
      go_wp2
      go_ret
      exact ⟨ret_int (by unfold sgn; split <;> (try split) <;> omega), rfl⟩
end Go.Proofs.Qxb6602997a
