/-
  THE WALK of FnCompareNumbersAntisymmetric (6).
-/
import Derived.Test.Qxb6602997aNumbers
import Derived.Test.Qxb6602997aBytes
namespace Go.Proofs.Qxb6602997a
open Go.RowKit Plain

theorem sgn_bd (n : Int) : -1 ≤ sgn n ∧ sgn n ≤ 1 := by unfold sgn; split <;> (try split) <;> omega

set_option maxHeartbeats 400000 in
theorem anti_in (a0 a1 : ByteArray) (w : World) (w0 : a0.size ≤ maxLen) (w1 : a1.size ≤ maxLen) (hsm : small2 a0.size a1.size = true)
    (h0 : (a0.size : Int) ≤ 524288) (h1 : (a1.size : Int) ≤ 524288) (c d : Int)
    (c0 : ∀ w, Calls Try.prog 17 #[.string a0, .string a1] w fun e w' => e = .returned (.int .i64 c) ∧ w' = w)
    (c1 : ∀ w, Calls Try.prog 17 #[.string a1, .string a0] w fun e w' => e = .returned (.int .i64 d) ∧ w' = w)
    (s : Int) (hs1 : -1 ≤ s) (hs2 : s ≤ 1)
    (s0 : ∀ w, Calls Try.prog 18 #[.int .i64 c] w fun e w' => e = .returned (.int .i64 s) ∧ w' = w)
    (s1 : ∀ w, Calls Try.prog 18 #[.int .i64 d] w fun e w' => e = .returned (.int .i64 (-s)) ∧ w' = w)
    (b : Bool) (hc : (c == 0) = b) (hxy : (a0.toList == a1.toList) = b) :
    Calls Try.prog 6 #[.string a0, .string a1] w fun e w' => e = .returned (.bool true) ∧ Grown w w' := by
  go_enter Try.func6, Try.ntmps6
  go_wp2_with (go_at_call 20; refine (bytes20 _ _ _ w0 w1).mono ?_; rintro e w' ⟨rfl, rfl⟩)
  refine (c0 _).mono ?_
  rintro e w' ⟨rfl, rfl⟩
  go_wp2_with fail
  refine (c1 _).mono ?_
  rintro e w' ⟨rfl, rfl⟩
  go_wp2_with fail
  refine (s0 _).mono ?_
  rintro e w' ⟨rfl, rfl⟩
  go_wp2_with fail
  refine (s1 _).mono ?_
  rintro e w' ⟨rfl, rfl⟩
  go_wp2
  go_ret
  exact ⟨ret_bool (by simp), Grown.refl _⟩

set_option maxHeartbeats 400000 in
theorem anti_walk (a0 : ByteArray) (a1 : ByteArray) (w0 : a0.size ≤ maxLen) (w1 : a1.size ≤ maxLen) (w : World) :
    Calls Try.prog 6 #[.string a0, .string a1] w fun e w' => e = .returned (.bool true) ∧ Grown w w' := by
  by_cases hsm : small2 a0.size a1.size = true
  · have hsz := small2_yes hsm
    by_cases h0 : (a0.size : Int) ≤ 524288
    · by_cases h1 : (a1.size : Int) ≤ 524288
      · have hb := sgn_bd (cmpN a0.data.toList a1.data.toList)
        refine anti_in a0 a1 w w0 w1 hsm h0 h1 (cmpN a0.data.toList a1.data.toList) (cmpN a1.data.toList a0.data.toList)
          (fun w => ZZcmp_any a0 a1 w (by omega) (by omega)) (fun w => ZZcmp_any a1 a0 w (by omega) (by omega))
          (sgn (cmpN a0.data.toList a1.data.toList)) hb.1 hb.2 (fun w => sign_any _ w) (fun w => ?_) (cmpN a0.data.toList a1.data.toList == 0) rfl ?_
        · have := sign_any (cmpN a1.data.toList a0.data.toList) w
          rw [cmpN_neg a0.data.toList a1.data.toList] at this ⊢
          rw [sgn_neg] at this; exact this
        · rw [Bool.eq_iff_iff, same_iff]
          simp [cmpN_zero]
      · go_enter Try.func6, Try.ntmps6
        go_wp2_with (go_at_call 20; refine (bytes20 _ _ _ w0 w1).mono ?_; rintro e w' ⟨rfl, rfl⟩)
        go_ret
        exact ⟨rfl, Grown.refl _⟩
    · go_enter Try.func6, Try.ntmps6
      go_wp2_with (go_at_call 20; refine (bytes20 _ _ _ w0 w1).mono ?_; rintro e w' ⟨rfl, rfl⟩)
      go_ret
      exact ⟨rfl, Grown.refl _⟩
  · have hsm' : small2 a0.size a1.size = false := by simpa using hsm
    go_enter Try.func6, Try.ntmps6
    go_wp2_with (go_at_call 20; refine (bytes20 _ _ _ w0 w1).mono ?_; rintro e w' ⟨rfl, rfl⟩)
    go_ret
    exact ⟨rfl, Grown.refl _⟩
end Go.Proofs.Qxb6602997a
