/-
  THE WALK of FnDigitRunEndsTheRun (3).
-/
import Derived.Test.Qxb6602997aDigits
import Derived.Test.Qxb6602997aBytes
namespace Go.Proofs.Qxb6602997a
open Go.RowKit Plain

set_option maxHeartbeats 400000 in
theorem ends_past (a0 : ByteArray) (i : Nat) (w : World) (w0 : a0.size ≤ maxLen) (hsm : small1 a0.size = true) (h0 : (a0.size : Int) ≤ 1048576)
    (hge : (a0.size : Int) ≤ i) (hi : i ≤ 9223372036854775807) :
    Calls Try.prog 3 #[.string a0, .int .i64 (i : Int)] w fun e w' => e = .returned (.bool true) ∧ Grown w w' := by
  have c0 : ∀ w, Calls Try.prog 12 #[.string a0, .int .i64 (i : Int)] w fun e w' => e = .returned (.int .i64 (i : Nat)) ∧ w' = w := by
    intro w; have := ZZdigitRun_any a0 i w (by omega) hi
    rw [rEnd_past _ _ (by rw [len_data]; omega)] at this; exact this
  go_enter Try.func3, Try.ntmps3
  go_wp2_with (go_at_call 11; refine (bytes11 _ _ _ w0).mono ?_; rintro e w' ⟨rfl, rfl⟩)
  refine (c0 _).mono ?_
  rintro e w' ⟨rfl, rfl⟩
  go_wp2
  go_ret
  exact ⟨ret_bool (by simp), Grown.refl _⟩

set_option maxHeartbeats 400000 in
theorem ends_in (a0 : ByteArray) (i : Nat) (w : World) (w0 : a0.size ≤ maxLen) (hsm : small1 a0.size = true) (h0 : (a0.size : Int) ≤ 1048576)
    (hlt : (i : Int) < a0.size) :
    Calls Try.prog 3 #[.string a0, .int .i64 (i : Int)] w fun e w' => e = .returned (.bool true) ∧ Grown w w' := by
  have hle := rEnd_le a0.data.toList i (by rw [len_data]; omega)
  have hge := rEnd_ge a0.data.toList i
  have hall := rEnd_all a0.data.toList i
  have hstop := rEnd_stop a0.data.toList i
  rw [len_data] at hle
  generalize hr : rEnd a0.data.toList i = r at hle hge hall hstop
  have c0 : ∀ w, Calls Try.prog 12 #[.string a0, .int .i64 (i : Int)] w fun e w' => e = .returned (.int .i64 (r : Nat)) ∧ w' = w := by
    intro w; have := ZZdigitRun_any a0 i w (by omega) (by omega); rw [hr] at this; exact this
  have HALL : Hid (∀ (k : Nat) (c : UInt8), i ≤ k → k < r → a0.data.toList[k]? = some c → dig c = true) := hall
  have HSTOP : Hid (∀ c : UInt8, a0.data.toList[r]? = some c → dig c = false) := hstop
  clear hall hstop hr
  have hA : decide (r < i) = false := by simp; omega
  have hB : decide (a0.size < r) = false := by simp; omega
  have hC : decide (a0.size ≤ i) = false := by simp; omega
  go_enter Try.func3, Try.ntmps3
  go_wp2_with (go_at_call 11; refine (bytes11 _ _ _ w0).mono ?_; rintro e w' ⟨rfl, rfl⟩)
  refine (c0 _).mono ?_
  rintro e w' ⟨rfl, rfl⟩
  go_wp2
  go_loop [6] (fun t => ∃ k : Nat, i ≤ k ∧ k ≤ r ∧ t = .int .i64 k) (fun t => r - (intOf t).toNat)
  case atStart => exact ⟨i, Nat.le_refl _, hge, rfl⟩
  case round =>
    obtain ⟨k, hk1, hk2, rfl⟩ := hrel
    by_cases hk : (k : Int) < r
    · have hks : k < a0.size := by omega
      have hd : dig a0[k] = true := HALL.out k _ hk1 (by omega) (byte_at a0 k hks)
      go_wp2_with (go_at_call 13; refine (isDec_any _ _).mono ?_; rintro e w' ⟨rfl, rfl⟩)
      go_round
      case rel => exact ⟨k + 1, by omega, by omega, by go_num⟩
      case measure => simp [intOf]; omega
    · by_cases he : ((r : Int) == (a0.size : Int)) = true
      · go_wp2
        go_ret
        exact ⟨ret_bool (by simp), Grown.refl _⟩
      · have he' : ((r : Int) == (a0.size : Int)) = false := by simpa using he
        have hrs : r < a0.size := by
          have : ¬ (r : Int) = a0.size := by simpa using he
          omega
        have hd : dig a0[r] = false := HSTOP.out _ (byte_at a0 r hrs)
        clear he
        go_wp2_with (go_at_call 13; refine (isDec_any _ _).mono ?_; rintro e w' ⟨rfl, rfl⟩)
        go_ret
        exact ⟨ret_bool (by simp), Grown.refl _⟩

set_option maxHeartbeats 400000 in
theorem ends_walk (a0 : ByteArray) (a1 : Int) (w0 : a0.size ≤ maxLen) (w1 : (Lit.int .i64 a1).wf = true) (w : World) :
    Calls Try.prog 3 #[.string a0, .int .i64 a1] w fun e w' => e = .returned (.bool true) ∧ Grown w w' := by
  have b1 : a1 ≤ 9223372036854775807 := by simp [Lit.wf] at w1; exact w1.2
  by_cases hsm : small1 a0.size = true
  · have hsz := small1_yes hsm
    have h0 : (a0.size : Int) ≤ 1048576 := by omega
    by_cases hn : a1 < 0
    · go_enter Try.func3, Try.ntmps3
      go_wp2_with (go_at_call 11; refine (bytes11 _ _ _ w0).mono ?_; rintro e w' ⟨rfl, rfl⟩)
      go_ret
      exact ⟨rfl, Grown.refl _⟩
    · obtain ⟨i, rfl⟩ : ∃ i : Nat, a1 = i := ⟨a1.toNat, by omega⟩
      by_cases hlt : (i : Int) < a0.size
      · exact ends_in a0 i w w0 hsm h0 hlt
      · exact ends_past a0 i w w0 hsm h0 (by omega) (by omega)
  · have hsm' : small1 a0.size = false := by simpa using hsm
    go_enter Try.func3, Try.ntmps3
    go_wp2_with (go_at_call 11; refine (bytes11 _ _ _ w0).mono ?_; rintro e w' ⟨rfl, rfl⟩)
    go_ret
    exact ⟨rfl, Grown.refl _⟩
end Go.Proofs.Qxb6602997a
