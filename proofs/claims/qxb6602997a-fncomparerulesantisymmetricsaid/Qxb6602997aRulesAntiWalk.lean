/-
  THE WALK of FnCompareRulesAntisymmetric (9).
-/
import Derived.Test.Qxb6602997aRules
import Derived.Test.Qxb6602997aBytes
namespace Go.Proofs.Qxb6602997a
open Go.RowKit Plain

theorem sgn_bounds (n : Int) : -1 ≤ sgn n ∧ sgn n ≤ 1 := by unfold sgn; split <;> (try split) <;> omega
theorem grown_drewN (w : World) (n : Nat) : Grown w (w.drewN n) := Grown.refl w
theorem ans_zero {a b : ByteArray} {c : Int} (h : Ans a b c) : (c == 0) = (a.toList == b.toList) := by
  rw [Bool.eq_iff_iff, same_iff, ← nat_zero, ← h.1, sgn_zero]; simp

set_option maxHeartbeats 400000 in
theorem rulesanti_in (a0 a1 : ByteArray) (w : World) (w0 : a0.size ≤ maxLen) (w1 : a1.size ≤ maxLen) (hsm : small2 a0.size a1.size = true)
    (h0 : (a0.size : Int) ≤ 524288) (h1 : (a1.size : Int) ≤ 524288) :
    Calls Try.prog 9 #[.string a0, .string a1] w fun e w' => e = .returned (.bool true) ∧ Grown w w' := by
  obtain ⟨b, hb⟩ : ∃ b, (a0.toList == a1.toList) = b := ⟨_, rfl⟩
  go_enter Try.func9, Try.ntmps9
  go_wp2_with (go_at_call 25; refine (bytes25 _ _ _ w0 w1).mono ?_; rintro e w' ⟨rfl, rfl⟩)
  refine (ZZrules_any a0 a1 _ (by omega) (by omega)).mono ?_
  rintro e w1 ⟨c, rfl, hc, n, rfl⟩
  have hcb : (c == 0) = b := by rw [ans_zero hc, hb]
  have HC : Hid (Ans a0 a1 c) := hc
  clear hc
  go_wp2_with fail
  refine (ZZrules_any a1 a0 _ (by omega) (by omega)).mono ?_
  rintro e w2 ⟨d, rfl, hd, m, rfl⟩
  have hsd : sgn d = - sgn c := by rw [hd.1, HC.out.1, nat_neg]
  have hsb := sgn_bounds c
  obtain ⟨s, hs⟩ : ∃ s, sgn c = s := ⟨_, rfl⟩
  have s0 : ∀ w, Calls Try.prog 18 #[.int .i64 c] w fun e w' => e = .returned (.int .i64 s) ∧ w' = w := by
    intro w; have := sign_any c w; rw [hs] at this; exact this
  have s1 : ∀ w, Calls Try.prog 18 #[.int .i64 d] w fun e w' => e = .returned (.int .i64 (-s)) ∧ w' = w := by
    intro w; have := sign_any d w; rw [hsd, hs] at this; exact this
  rw [hs] at hsb
  have hs1 := hsb.1
  have hs2 := hsb.2
  clear hsd hsb hs hd
  go_wp2_with fail
  refine (s0 _).mono ?_
  rintro e w' ⟨rfl, rfl⟩
  go_wp2_with fail
  refine (s1 _).mono ?_
  rintro e w' ⟨rfl, rfl⟩
  go_wp2
  go_ret
  exact ⟨ret_bool (by simp), grown_drewN _ _⟩

set_option maxHeartbeats 400000 in
theorem rulesanti_walk (a0 : ByteArray) (a1 : ByteArray) (w0 : a0.size ≤ maxLen) (w1 : a1.size ≤ maxLen) (w : World) :
    Calls Try.prog 9 #[.string a0, .string a1] w fun e w' => e = .returned (.bool true) ∧ Grown w w' := by
  by_cases hsm : small2 a0.size a1.size = true
  · by_cases h0 : (a0.size : Int) ≤ 524288
    · by_cases h1 : (a1.size : Int) ≤ 524288
      · exact rulesanti_in a0 a1 w w0 w1 hsm h0 h1
      · go_enter Try.func9, Try.ntmps9
        go_wp2_with (go_at_call 25; refine (bytes25 _ _ _ w0 w1).mono ?_; rintro e w' ⟨rfl, rfl⟩)
        go_ret
        exact ⟨rfl, Grown.refl _⟩
    · go_enter Try.func9, Try.ntmps9
      go_wp2_with (go_at_call 25; refine (bytes25 _ _ _ w0 w1).mono ?_; rintro e w' ⟨rfl, rfl⟩)
      go_ret
      exact ⟨rfl, Grown.refl _⟩
  · have hsm' : small2 a0.size a1.size = false := by simpa using hsm
    go_enter Try.func9, Try.ntmps9
    go_wp2_with (go_at_call 25; refine (bytes25 _ _ _ w0 w1).mono ?_; rintro e w' ⟨rfl, rfl⟩)
    go_ret
    exact ⟨rfl, Grown.refl _⟩
end Go.Proofs.Qxb6602997a
