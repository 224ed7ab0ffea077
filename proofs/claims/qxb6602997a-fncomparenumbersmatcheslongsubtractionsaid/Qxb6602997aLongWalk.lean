/-
  THE WALK of FnCompareNumbersMatchesLongSubtraction (5).
-/
import Derived.Test.Qxb6602997aNumbers
import Derived.Test.Qxb6602997aSubtr
import Derived.Test.Qxb6602997aBytes
namespace Go.Proofs.Qxb6602997a
open Go.RowKit Plain

set_option maxHeartbeats 400000 in
theorem long_in (a0 a1 : ByteArray) (w : World) (w0 : a0.size ≤ maxLen) (w1 : a1.size ≤ maxLen) (hsm : small2 a0.size a1.size = true)
    (h0 : (a0.size : Int) ≤ 524288) (h1 : (a1.size : Int) ≤ 524288) (cx : canon a0.data.toList = true) (cy : canon a1.data.toList = true) (c s : Int)
    (c0 : ∀ w, Calls Try.prog 17 #[.string a0, .string a1] w fun e w' => e = .returned (.int .i64 c) ∧ w' = w)
    (s0 : ∀ w, Calls Try.prog 18 #[.int .i64 c] w fun e w' => e = .returned (.int .i64 s) ∧ w' = w)
    (t0 : ∀ w, Calls Try.prog 19 #[.string a0, .string a1] w fun e w' => e = .returned (.int .i64 s) ∧ w' = w)
    (hd : ((a0.size : Int) == (a1.size : Int)) = false ∧ Hid (c = (a0.size : Int) - a1.size) ∨ ((a0.size : Int) == (a1.size : Int)) = true ∧ -1 ≤ c ∧ c ≤ 1) :
    Calls Try.prog 5 #[.string a0, .string a1] w fun e w' => e = .returned (.bool true) ∧ Grown w w' := by
  rcases hd with ⟨hl, hc⟩ | ⟨hl, hc1, hc2⟩
  all_goals
    go_enter Try.func5, Try.ntmps5
    go_wp2_with (go_at_call 15; refine (bytes15 _ _ _ w0 w1).mono ?_; rintro e w' ⟨rfl, rfl⟩)
    refine (canon_any _ _ (by omega)).mono ?_
    rintro e w' ⟨rfl, rfl⟩
    go_wp2_with fail
    refine (canon_any _ _ (by omega)).mono ?_
    rintro e w' ⟨rfl, rfl⟩
    go_wp2_with fail
    refine (c0 _).mono ?_
    rintro e w' ⟨rfl, rfl⟩
    go_wp2_with fail
    refine (s0 _).mono ?_
    rintro e w' ⟨rfl, rfl⟩
    go_wp2_with fail
    refine (t0 _).mono ?_
    rintro e w' ⟨rfl, rfl⟩
    go_wp2
    go_ret
  · exact ⟨ret_bool (by rw [hc.out]; simp), Grown.refl _⟩
  · exact ⟨ret_bool (by simp), Grown.refl _⟩

set_option maxHeartbeats 400000 in
theorem long_walk (a0 : ByteArray) (a1 : ByteArray) (w0 : a0.size ≤ maxLen) (w1 : a1.size ≤ maxLen) (w : World) :
    Calls Try.prog 5 #[.string a0, .string a1] w fun e w' => e = .returned (.bool true) ∧ Grown w w' := by
  by_cases hsm : small2 a0.size a1.size = true
  · have hsz := small2_yes hsm
    by_cases h0 : (a0.size : Int) ≤ 524288
    · by_cases h1 : (a1.size : Int) ≤ 524288
      · by_cases cx : canon a0.data.toList = true
        · by_cases cy : canon a1.data.toList = true
          · refine long_in a0 a1 w w0 w1 hsm h0 h1 cx cy (cmpN a0.data.toList a1.data.toList) (sgn (cmpN a0.data.toList a1.data.toList))
              (fun w => ZZcmp_any a0 a1 w (by omega) (by omega)) (fun w => sign_any _ w) (fun w => ?_) ?_
            · have := subtr_any a0 a1 w (by omega) (by omega) cx cy
              have hsl := sub_law a0.data.toList a1.data.toList cx cy
              rw [len_data, len_data] at hsl
              rw [hsl] at this; exact this
            · by_cases hl : ((a0.size : Int) == (a1.size : Int)) = true
              · right
                refine ⟨hl, ?_⟩
                have := eq_of_beq hl
                unfold cmpN; rw [if_pos (by rw [len_data, len_data]; omega)]
                have := lx_three a0.data.toList a1.data.toList
                omega
              · left
                have hl' : ((a0.size : Int) == (a1.size : Int)) = false := by simpa using hl
                refine ⟨hl', ?_⟩
                have := ne_of_beq_false hl'
                have e : cmpN a0.data.toList a1.data.toList = (a0.size : Int) - a1.size := by
                  unfold cmpN; rw [if_neg (by rw [len_data, len_data]; omega), len_data, len_data]
                exact e
          · have cy' : canon a1.data.toList = false := by simpa using cy
            clear cy
            go_enter Try.func5, Try.ntmps5
            go_wp2_with (go_at_call 15; refine (bytes15 _ _ _ w0 w1).mono ?_; rintro e w' ⟨rfl, rfl⟩)
            refine (canon_any _ _ (by omega)).mono ?_
            rintro e w' ⟨rfl, rfl⟩
            go_wp2_with fail
            refine (canon_any _ _ (by omega)).mono ?_
            rintro e w' ⟨rfl, rfl⟩
            go_wp2
            go_ret
            exact ⟨rfl, Grown.refl _⟩
        · have cx' : canon a0.data.toList = false := by simpa using cx
          clear cx
          go_enter Try.func5, Try.ntmps5
          go_wp2_with (go_at_call 15; refine (bytes15 _ _ _ w0 w1).mono ?_; rintro e w' ⟨rfl, rfl⟩)
          refine (canon_any _ _ (by omega)).mono ?_
          rintro e w' ⟨rfl, rfl⟩
          go_wp2
          go_ret
          exact ⟨rfl, Grown.refl _⟩
      · go_enter Try.func5, Try.ntmps5
        go_wp2_with (go_at_call 15; refine (bytes15 _ _ _ w0 w1).mono ?_; rintro e w' ⟨rfl, rfl⟩)
        go_ret
        exact ⟨rfl, Grown.refl _⟩
    · go_enter Try.func5, Try.ntmps5
      go_wp2_with (go_at_call 15; refine (bytes15 _ _ _ w0 w1).mono ?_; rintro e w' ⟨rfl, rfl⟩)
      go_ret
      exact ⟨rfl, Grown.refl _⟩
  · have hsm' : small2 a0.size a1.size = false := by simpa using hsm
    go_enter Try.func5, Try.ntmps5
    go_wp2_with (go_at_call 15; refine (bytes15 _ _ _ w0 w1).mono ?_; rintro e w' ⟨rfl, rfl⟩)
    go_ret
    exact ⟨rfl, Grown.refl _⟩
end Go.Proofs.Qxb6602997a
