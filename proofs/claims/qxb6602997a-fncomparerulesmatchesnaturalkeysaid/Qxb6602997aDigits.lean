/-
  WALKS: isDigit (31), zzIsDecimalDigit (13), digitRun (27), ZZdigitRun (12).
-/
import Derived.Test.Qxb6602997aRows
import Derived.WalkKit
import Derived.WalkLawsBesides
import Derived.Outline
import Derived.Test.Qxb6602997aPlain
namespace Go.Proofs.Qxb6602997a
open Go.RowKit Plain

theorem ret_bool {a b : Bool} (h : a = b) : Ending.returned (.bool a) = .returned (.bool b) := by rw [h]
theorem ret_int {k : IntKind} {a b : Int} (h : a = b) : Ending.returned (.int k a) = .returned (.int k b) := by rw [h]

theorem isDigit_any (c : UInt8) (w : World) :
    Calls Try.prog 31 #[.int .u8 (c.toNat : Int)] w fun e w' => e = .returned (.bool (dig c)) ∧ w' = w := by
  by_cases h : 48 ≤ (c.toNat : Int)
  · go_enter Try.func31, Try.ntmps31
    go_wp2
    go_ret
    exact ⟨ret_bool (by unfold dig; rw [Bool.eq_iff_iff]; simp; omega), rfl⟩
  · go_enter Try.func31, Try.ntmps31
    go_wp2
    go_ret
    exact ⟨ret_bool (by unfold dig; rw [Bool.eq_iff_iff]; simp; omega), rfl⟩

theorem isDec_any (c : UInt8) (w : World) :
    Calls Try.prog 13 #[.int .u8 (c.toNat : Int)] w fun e w' => e = .returned (.bool (dig c)) ∧ w' = w := by
  have hc : (c.toNat : Int) ≤ 255 := by have := c.toNat_lt; omega
  go_enter Try.func13, Try.ntmps13
  go_wp2
  go_ret
  exact ⟨ret_bool (by unfold dig; rw [Bool.eq_iff_iff]; simp; omega), rfl⟩

theorem byte_at (s : ByteArray) (k : Nat) (h : k < s.size) : s.data.toList[k]? = some s[k] := by
  rw [List.getElem?_eq_getElem (by simpa using h)]; rfl
theorem len_data (s : ByteArray) : s.data.toList.length = s.size := Array.length_toList

set_option maxHeartbeats 400000 in
theorem digitRun_any (s : ByteArray) (i : Nat) (w : World) (hs : s.size ≤ 9000000000000000000) (_hi : i ≤ 9223372036854775807) :
    Calls Try.prog 27 #[.string s, .int .i64 (i : Int)] w fun e w' => e = .returned (.int .i64 (rEnd s.data.toList i : Nat)) ∧ w' = w := by
  have hlen := len_data s
  have HL : Hid (s.data.toList.length = s.size) := hlen
  clear hlen
  go_enter Try.func27, Try.ntmps27
  go_wp2
  go_loop [1] (fun t => ∃ k : Nat, i ≤ k ∧ (k ≤ s.size ∨ k = i) ∧ t = .int .i64 k ∧ rEnd s.data.toList k = rEnd s.data.toList i) (fun t => s.size - (intOf t).toNat)
  case atStart => exact ⟨i, Nat.le_refl _, Or.inr rfl, rfl, rfl⟩
  case round =>
    obtain ⟨k, hk1, hk2, rfl, hk3⟩ := hrel
    have HK : Hid (rEnd s.data.toList k = rEnd s.data.toList i) := hk3
    clear hk3
    by_cases hlt : k < s.size
    · have hb := byte_at s k hlt
      have HB : Hid (s.data.toList[k]? = some s[k]) := hb
      clear hb
      by_cases hd : dig s[k] = true
      · go_wp2_with (go_at_call 31; refine (isDigit_any _ _).mono ?_; rintro e w' ⟨rfl, rfl⟩)
        go_round
        case rel => exact ⟨k + 1, by omega, by omega, by go_num, by rw [← HK.out, rEnd_yes _ _ _ HB.out hd]⟩
        case measure => simp [intOf]; omega
      · have hd' : dig s[k] = false := by simpa using hd
        clear hd
        go_wp2_with (go_at_call 31; refine (isDigit_any _ _).mono ?_; rintro e w' ⟨rfl, rfl⟩)
        go_ret
        exact ⟨ret_int (by rw [← HK.out, rEnd_no _ _ _ HB.out hd']), rfl⟩
    · go_wp2
      go_ret
      exact ⟨ret_int (by rw [← HK.out, rEnd_past _ _ (by rw [HL.out]; omega)]), rfl⟩

theorem ZZdigitRun_any (s : ByteArray) (i : Nat) (w : World) (hs : s.size ≤ 9000000000000000000) (hi : i ≤ 9223372036854775807) :
    Calls Try.prog 12 #[.string s, .int .i64 (i : Int)] w fun e w' => e = .returned (.int .i64 (rEnd s.data.toList i : Nat)) ∧ w' = w := by
  go_enter Try.func12, Try.ntmps12
  go_wp2_with (go_at_call 27; refine (digitRun_any _ _ _ hs hi).mono ?_; rintro e w' ⟨rfl, rfl⟩)
  go_ret
  exact ⟨rfl, rfl⟩
end Go.Proofs.Qxb6602997a
