/-
  THE WALK of FnDigitRunSplitsOverConcatenation (4).
-/
import Derived.Test.Qxb6602997aDigits
import Derived.Test.Qxb6602997aBytes
namespace Go.Proofs.Qxb6602997a
open Go.RowKit Plain
theorem rEnd_bd (l : List UInt8) (i : Nat) : rEnd l i ≤ max i l.length := by
  by_cases h : i ≤ l.length
  · have := rEnd_le l i h; omega
  · have := rEnd_past l i (by omega); omega
theorem cat_data (a b : ByteArray) : (a ++ b).data.toList = a.data.toList ++ b.data.toList := by simp

set_option maxHeartbeats 400000 in
theorem split_in (a0 a1 : ByteArray) (i : Nat) (w : World) (w0 : a0.size ≤ maxLen) (w1 : a1.size ≤ maxLen) (hsm : small2 a0.size a1.size = true)
    (h0 : (a0.size : Int) ≤ 524288) (h1 : (a1.size : Int) ≤ 524288) (hi : i ≤ 9223372036854775807) :
    Calls Try.prog 4 #[.string a0, .string a1, .int .i64 (i : Int)] w fun e w' => e = .returned (.bool true) ∧ Grown w w' := by
  have hz : (a0 ++ a1).size ≤ 9000000000000000000 := by rw [ByteArray.size_append]; omega
  have e1 := rEnd_cat_past a0.data.toList a1.data.toList i
  have e2 := rEnd_cat_in a0.data.toList a1.data.toList i
  have e3 := rEnd_cat_on a0.data.toList a1.data.toList i
  rw [← cat_data, len_data] at e1 e2 e3
  have hle := rEnd_le a0.data.toList i
  rw [len_data] at hle
  generalize hr0 : rEnd (a0 ++ a1).data.toList i = r0 at e1 e2 e3
  have c0 : ∀ w, Calls Try.prog 12 #[.string (a0 ++ a1), .int .i64 (i : Int)] w fun e w' => e = .returned (.int .i64 (r0 : Nat)) ∧ w' = w := by
    intro w; have := ZZdigitRun_any (a0 ++ a1) i w hz hi; rw [hr0] at this; exact this
  by_cases hp : (a0.size : Int) < i
  · obtain ⟨j, hj⟩ : ∃ j : Nat, i = a0.size + j := ⟨i - a0.size, by omega⟩
    have e1' := e1 (by omega)
    rw [show i - a0.size = j by omega] at e1'
    generalize hr1 : rEnd a1.data.toList j = r1 at e1'
    have c1 : ∀ w, Calls Try.prog 12 #[.string a1, .int .i64 ((i : Int) - a0.size)] w fun e w' => e = .returned (.int .i64 (r1 : Nat)) ∧ w' = w := by
      intro w; have := ZZdigitRun_any a1 j w (by omega) (by omega); rw [hr1] at this; rw [show ((i : Int) - a0.size) = (j : Int) by omega]; exact this
    have hr1b : r0 ≤ 9223372036854775807 := by
      have h := rEnd_bd (a0 ++ a1).data.toList i
      rw [hr0, len_data] at h; omega
    clear e1 e2 e3 hle hr0 hr1
    have HE : Hid (r0 = a0.size + r1) := e1'
    have HJ : Hid (i = a0.size + j) := hj
    have hb : (r1 : Int) + a0.size ≤ 9223372036854775807 := by omega
    clear e1' hj
    go_enter Try.func4, Try.ntmps4
    go_wp2_with (go_at_call 14; refine (bytes14 _ _ _ _ w0 w1).mono ?_; rintro e w' ⟨rfl, rfl⟩)
    refine (c0 _).mono ?_
    rintro e w' ⟨rfl, rfl⟩
    go_wp2_with fail
    refine (c1 _).mono ?_
    rintro e w' ⟨rfl, rfl⟩
    go_wp2
    go_ret
    exact ⟨ret_bool (by rw [HE.out]; simp), Grown.refl _⟩
  · have hle' := hle (by omega)
    clear e1 hle
    generalize hr1 : rEnd a0.data.toList i = r1 at e2 e3 hle'
    have c1 : ∀ w, Calls Try.prog 12 #[.string a0, .int .i64 (i : Int)] w fun e w' => e = .returned (.int .i64 (r1 : Nat)) ∧ w' = w := by
      intro w; have := ZZdigitRun_any a0 i w (by omega) hi; rw [hr1] at this; exact this
    by_cases hin : (r1 : Int) < a0.size
    · have HE : Hid (r0 = r1) := e2 (by omega) (by omega)
      clear e2 e3 hr0 hr1
      go_enter Try.func4, Try.ntmps4
      go_wp2_with (go_at_call 14; refine (bytes14 _ _ _ _ w0 w1).mono ?_; rintro e w' ⟨rfl, rfl⟩)
      refine (c0 _).mono ?_
      rintro e w' ⟨rfl, rfl⟩
      go_wp2_with fail
      refine (c1 _).mono ?_
      rintro e w' ⟨rfl, rfl⟩
      go_wp2
      go_ret
      exact ⟨ret_bool (by rw [HE.out]; simp), Grown.refl _⟩
    · have HE0 := e3 (by omega) (by omega)
      generalize hr2 : rEnd a1.data.toList 0 = r2 at HE0
      have hb2 : r2 ≤ a1.size := by
        have h := rEnd_bd a1.data.toList 0
        rw [hr2, len_data] at h; omega
      have c2 : ∀ w, Calls Try.prog 12 #[.string a1, .int .i64 0] w fun e w' => e = .returned (.int .i64 (r2 : Nat)) ∧ w' = w := by
        intro w; have := ZZdigitRun_any a1 0 w (by omega) (by omega); rw [hr2] at this; exact this
      have HE : Hid (r0 = a0.size + r2) := HE0
      clear e2 e3 hr0 hr1 hr2 HE0
      go_enter Try.func4, Try.ntmps4
      go_wp2_with (go_at_call 14; refine (bytes14 _ _ _ _ w0 w1).mono ?_; rintro e w' ⟨rfl, rfl⟩)
      refine (c0 _).mono ?_
      rintro e w' ⟨rfl, rfl⟩
      go_wp2_with fail
      refine (c1 _).mono ?_
      rintro e w' ⟨rfl, rfl⟩
      go_wp2_with fail
      refine (c2 _).mono ?_
      rintro e w' ⟨rfl, rfl⟩
      go_wp2
      go_ret
      exact ⟨ret_bool (by rw [HE.out]; simp), Grown.refl _⟩

set_option maxHeartbeats 400000 in
theorem split_walk (a0 : ByteArray) (a1 : ByteArray) (a2 : Int) (w0 : a0.size ≤ maxLen) (w1 : a1.size ≤ maxLen) (w2 : (Lit.int .i64 a2).wf = true) (w : World) :
    Calls Try.prog 4 #[.string a0, .string a1, .int .i64 a2] w fun e w' => e = .returned (.bool true) ∧ Grown w w' := by
  have b2r : a2 ≤ 9223372036854775807 := by simp [Lit.wf] at w2; exact w2.2
  by_cases hsm : small2 a0.size a1.size = true
  · have hsz := small2_yes hsm
    by_cases h0 : (a0.size : Int) ≤ 524288
    · by_cases h1 : (a1.size : Int) ≤ 524288
      · by_cases hn : a2 < 0
        · go_enter Try.func4, Try.ntmps4
          go_wp2_with (go_at_call 14; refine (bytes14 _ _ _ _ w0 w1).mono ?_; rintro e w' ⟨rfl, rfl⟩)
          go_ret
          exact ⟨rfl, Grown.refl _⟩
        · obtain ⟨i, rfl⟩ : ∃ i : Nat, a2 = i := ⟨a2.toNat, by omega⟩
          exact split_in a0 a1 i w w0 w1 hsm h0 h1 (by omega)
      · go_enter Try.func4, Try.ntmps4
        go_wp2_with (go_at_call 14; refine (bytes14 _ _ _ _ w0 w1).mono ?_; rintro e w' ⟨rfl, rfl⟩)
        go_ret
        exact ⟨rfl, Grown.refl _⟩
    · go_enter Try.func4, Try.ntmps4
      go_wp2_with (go_at_call 14; refine (bytes14 _ _ _ _ w0 w1).mono ?_; rintro e w' ⟨rfl, rfl⟩)
      go_ret
      exact ⟨rfl, Grown.refl _⟩
  · have hsm' : small2 a0.size a1.size = false := by simpa using hsm
    go_enter Try.func4, Try.ntmps4
    go_wp2_with (go_at_call 14; refine (bytes14 _ _ _ _ w0 w1).mono ?_; rintro e w' ⟨rfl, rfl⟩)
    go_ret
    exact ⟨rfl, Grown.refl _⟩


end Go.Proofs.Qxb6602997a
