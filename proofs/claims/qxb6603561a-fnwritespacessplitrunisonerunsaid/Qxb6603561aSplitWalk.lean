/-
  THE WALK of FnWriteSpacesSplitRunIsOneRun (4).
-/
import Derived.Test.Qxb6603561aMeasure
namespace Go.Proofs.Qxb6603561a
open Go.RowKit

theorem below_drewN' {B : Nat} {w w1 : World} {n : Nat} (h : Below B w w1) : Below B w (w1.drewN n) := ⟨h.os, h.tape, h.output, h.size, h.block⟩
theorem wrap_two (n a b : Int) : wrap64 (n + (a + b)) = wrap64 (wrap64 (n + a) + b) := by unfold wrap64; omega
/-- two runs leave the current run that one run leaves -/
theorem cur_two (c a b : Int) (ha : 0 ≤ a) (hb : 0 ≤ b) : cur (cur c a) b = cur c (a + b) := by
  unfold cur
  by_cases h1 : 0 < b
  · rw [if_pos h1, if_pos (by omega)]
  · rw [if_neg h1]
    by_cases h2 : 0 < a
    · rw [if_pos h2, if_pos (by omega)]
    · rw [if_neg h2, if_neg (by omega)]

set_option maxHeartbeats 1000000 in
theorem split_in (a0 a1 a2 a3 a4 : Int) (w : World) (ha : 0 ≤ a3) (hb : 0 ≤ a4) (hab : a3 ≤ 9223372036854775807 - a4) (c : Int) (hc : cur a0 (a3 + a4) = c)
    (hw : 0 < a3 + a4 ∧ Hid (c = 0) ∨ ¬ 0 < a3 + a4 ∧ Hid (c = a0)) :
    Calls Try.prog 4 #[.int .i64 a0, .int .i64 a1, .int .i64 a2, .int .i64 a3, .int .i64 a4] w fun e w' => e = .returned (.bool true) ∧ Below w.heap.size w w' := by
  have HC1 : Hid (cur (cur a0 a3) a4 = c) := (cur_two a0 a3 a4 ha hb).trans hc
  have HC : Hid (cur a0 (a3 + a4) = c) := hc
  clear hc
  rcases hw with ⟨hp, hz⟩ | ⟨hp, hz⟩
  all_goals
    go_enter Try.func4, Try.ntmps4
    go_wp2_with fail
    refine (new_any _ _ _ _).mono ?_
    rintro e w1 ⟨rfl, rfl⟩
    go_wp2_with fail
    refine (write_any _ _ _ _ _ _ (mes_new w a0 a1 a2)).mono ?_
    rintro e w2 ⟨rfl, hm2, hb2⟩
    have HB2 : Hid (Below w.heap.size w w2) := ((Below.refl _ _).alloc (Nat.le_refl _) _).trans hb2
    clear hb2
    go_wp2_with fail
    refine (write_any _ _ _ _ _ _ hm2).mono ?_
    rintro e w3 ⟨rfl, hm3, hb3⟩
    rw [HC1.out, hz.out] at hm3
    have HB3 : Hid (Below w.heap.size w w3) := HB2.out.trans hb3
    clear hb3 hm2 HB2
    go_wp2_with fail
    refine (fields_any _ _ _ _ _ hm3).mono ?_
    rintro e w4 ⟨rfl, hq⟩
    have HB4 : Hid (Below w.heap.size w w4) := by obtain ⟨q, rfl⟩ := hq; exact below_drewN' HB3.out
    clear hm3 hq HB3
    go_wp2_with fail
    refine (new_any _ _ _ _).mono ?_
    rintro e w5 ⟨rfl, rfl⟩
    go_wp2_with fail
    refine (write_any _ _ _ _ _ _ (mes_new w4 a0 a1 a2)).mono ?_
    rintro e w6 ⟨rfl, hm6, hb6⟩
    rw [HC.out, hz.out, wrap_two] at hm6
    have HB6 : Hid (Below w.heap.size w w6) := (HB4.out.alloc HB4.out.size _).trans (hb6.mono HB4.out.size)
    clear hb6
    go_wp2_with fail
    refine (fields_any _ _ _ _ _ hm6).mono ?_
    rintro e w7 ⟨rfl, q, rfl⟩
    clear hm6
    go_wp2
    go_ret
    exact ⟨ret_bool (by simp), below_drewN' HB6.out⟩

set_option maxHeartbeats 400000 in
theorem split_walk (a0 a1 a2 a3 a4 : Int) (_w0 : (Lit.int .i64 a0).wf = true) (_w1 : (Lit.int .i64 a1).wf = true) (_w2 : (Lit.int .i64 a2).wf = true) (_w3 : (Lit.int .i64 a3).wf = true) (w4 : (Lit.int .i64 a4).wf = true) (w : World) :
    Calls Try.prog 4 #[.int .i64 a0, .int .i64 a1, .int .i64 a2, .int .i64 a3, .int .i64 a4] w fun e w' => e = .returned (.bool true) ∧ Below w.heap.size w w' := by
  have b4 : a4 ≤ 9223372036854775807 := by simp [Lit.wf] at w4; exact w4.2
  by_cases ha : 0 ≤ a3
  · by_cases hb : 0 ≤ a4
    · by_cases hab : a3 ≤ 9223372036854775807 - a4
      · by_cases hp : 0 < a3 + a4
        · exact split_in a0 a1 a2 a3 a4 w ha hb hab 0 (if_pos hp) (Or.inl ⟨hp, (rfl : (0 : Int) = 0)⟩)
        · exact split_in a0 a1 a2 a3 a4 w ha hb hab a0 (if_neg hp) (Or.inr ⟨hp, (rfl : a0 = a0)⟩)
      · go_enter Try.func4, Try.ntmps4
        go_wp2
        go_ret
        exact ⟨rfl, Below.refl _ _⟩
    · go_enter Try.func4, Try.ntmps4
      go_wp2
      go_ret
      exact ⟨rfl, Below.refl _ _⟩
  · go_enter Try.func4, Try.ntmps4
    go_wp2
    go_ret
    exact ⟨rfl, Below.refl _ _⟩
end Go.Proofs.Qxb6603561a
