/-
  THE WALK of FnCompareRulesMatchesNaturalKey (8).
-/
import Derived.Test.Qxb6602997aRules
import Derived.Test.Qxb6602997aNatural
import Derived.Test.Qxb6602997aBytes
namespace Go.Proofs.Qxb6602997a
open Go.RowKit Plain

theorem below_drewN {B : Nat} {w w1 : World} {n : Nat} (h : Below B (w.drewN n) w1) : Below B w w1 := ⟨h.os, h.tape, h.output, h.size, h.block⟩

set_option maxHeartbeats 1000000 in
theorem ruleskey_in (a0 a1 : ByteArray) (w : World) (w0 : a0.size ≤ maxLen) (w1 : a1.size ≤ maxLen) (hsm : small2 a0.size a1.size = true)
    (h0 : (a0.size : Int) ≤ 524288) (h1 : (a1.size : Int) ≤ 524288) :
    Calls Try.prog 8 #[.string a0, .string a1] w fun e w' => e = .returned (.bool true) ∧ Below w.heap.size w w' := by
  go_enter Try.func8, Try.ntmps8
  go_wp2_with (go_at_call 22; refine (bytes22 _ _ _ w0 w1).mono ?_; rintro e w' ⟨rfl, rfl⟩)
  refine (ZZrules_any a0 a1 _ (by omega) (by omega)).mono ?_
  rintro e wx ⟨c, rfl, hc, n, rfl⟩
  obtain ⟨s, hs⟩ : ∃ s, nat a0.data.toList a1.data.toList = s := ⟨_, rfl⟩
  obtain ⟨hc1, hc2, hc3⟩ := hc
  have s0 : ∀ w, Calls Try.prog 18 #[.int .i64 c] w fun e w' => e = .returned (.int .i64 s) ∧ w' = w := by
    intro w; have := sign_any c w; rw [hc1, hs] at this; exact this
  have t0 : ∀ w, Calls Try.prog 24 #[.string a0, .string a1] w fun e w' => e = .returned (.int .i64 s) ∧ Below w.heap.size w w' := by
    intro w; have := natural_any a0 a1 w (by omega) (by omega); rw [hs] at this; exact this
  clear hs hc1
  go_wp2_with fail
  refine (s0 _).mono ?_
  rintro e wy ⟨rfl, rfl⟩
  go_wp2_with fail
  refine (t0 _).mono ?_
  rintro e w2 ⟨rfl, hb2⟩
  have HB : Hid (Below w'.heap.size w' w2) := below_drewN hb2
  clear hb2
  by_cases m1 : (255 : Int) < a0.size
  · by_cases m2 : (a0.size : Int) < a1.size
    · have g1 : -(a1.size : Int) ≤ c := by omega
      have g2 : c ≤ (a1.size : Int) := by omega
      clear hc2 hc3
      go_wp2
      go_ret
      exact ⟨ret_bool (by simp), HB.out⟩
    · have g1 : -(a0.size : Int) ≤ c := by omega
      have g2 : c ≤ (a0.size : Int) := by omega
      clear hc2 hc3
      go_wp2
      go_ret
      exact ⟨ret_bool (by simp), HB.out⟩
  · by_cases m2 : (255 : Int) < a1.size
    · have g1 : -(a1.size : Int) ≤ c := by omega
      have g2 : c ≤ (a1.size : Int) := by omega
      clear hc2 hc3
      go_wp2
      go_ret
      exact ⟨ret_bool (by simp), HB.out⟩
    · have g1 : -255 ≤ c := by omega
      have g2 : c ≤ 255 := by omega
      clear hc2 hc3
      go_wp2
      go_ret
      exact ⟨ret_bool (by simp), HB.out⟩

set_option maxHeartbeats 400000 in
theorem ruleskey_walk (a0 : ByteArray) (a1 : ByteArray) (w0 : a0.size ≤ maxLen) (w1 : a1.size ≤ maxLen) (w : World) :
    Calls Try.prog 8 #[.string a0, .string a1] w fun e w' => e = .returned (.bool true) ∧ Below w.heap.size w w' := by
  by_cases hsm : small2 a0.size a1.size = true
  · by_cases h0 : (a0.size : Int) ≤ 524288
    · by_cases h1 : (a1.size : Int) ≤ 524288
      · exact ruleskey_in a0 a1 w w0 w1 hsm h0 h1
      · go_enter Try.func8, Try.ntmps8
        go_wp2_with (go_at_call 22; refine (bytes22 _ _ _ w0 w1).mono ?_; rintro e w' ⟨rfl, rfl⟩)
        go_ret
        exact ⟨rfl, Below.refl _ _⟩
    · go_enter Try.func8, Try.ntmps8
      go_wp2_with (go_at_call 22; refine (bytes22 _ _ _ w0 w1).mono ?_; rintro e w' ⟨rfl, rfl⟩)
      go_ret
      exact ⟨rfl, Below.refl _ _⟩
  · have hsm' : small2 a0.size a1.size = false := by simpa using hsm
    go_enter Try.func8, Try.ntmps8
    go_wp2_with (go_at_call 22; refine (bytes22 _ _ _ w0 w1).mono ?_; rintro e w' ⟨rfl, rfl⟩)
    go_ret
    exact ⟨rfl, Below.refl _ _⟩
end Go.Proofs.Qxb6602997a
