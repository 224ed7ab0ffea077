/-
  THE WALK of FnWriteSpacesIsOneSpaceAtATime (3).
-/
import Derived.Test.Qxb6603561aMeasure
namespace Go.Proofs.Qxb6603561a
open Go.RowKit

theorem below_drewN {B : Nat} {w w1 : World} {n : Nat} (h : Below B w w1) : Below B w (w1.drewN n) := ⟨h.os, h.tape, h.output, h.size, h.block⟩
theorem wrap_step (a i : Int) : wrap64 (wrap64 (a + i) + 1) = wrap64 (a + (i + 1)) := by unfold wrap64; omega
theorem wrap_same (a : Int) (h1 : -9223372036854775808 ≤ a) (h2 : a ≤ 9223372036854775807) : wrap64 a = a := by unfold wrap64; omega
theorem cur_pos {c k : Int} (h : 0 < k) : cur c k = 0 := if_pos h
theorem cur_neg {c k : Int} (h : ¬ 0 < k) : cur c k = c := if_neg h

set_option maxHeartbeats 1000000 in
theorem one_far (a0 a1 a2 a3 : Int) (w : World) (want : Int) (hwant : cur a0 a3 = want) (hw : 0 < a3 ∧ Hid (want = 0) ∧ 65536 < a3 ∨ ¬ 0 < a3 ∧ Hid (want = a0)) :
    Calls Try.prog 3 #[.int .i64 a0, .int .i64 a1, .int .i64 a2, .int .i64 a3] w fun e w' => e = .returned (.bool true) ∧ Below w.heap.size w w' := by
  rcases hw with ⟨hp, hz, hf⟩ | ⟨hp, hz⟩
  all_goals
    go_enter Try.func3, Try.ntmps3
    go_wp2_with fail
    refine (new_any _ _ _ _).mono ?_
    rintro e w1 ⟨rfl, rfl⟩
    go_wp2_with fail
    refine (write_any _ _ _ _ _ _ (mes_new w a0 a1 a2)).mono ?_
    rintro e w2 ⟨rfl, hm2, hb2⟩
    rw [hwant, hz.out] at hm2
    have HB2 : Hid (Below w.heap.size w w2) := ((Below.refl _ _).alloc (Nat.le_refl _) _).trans hb2
    clear hb2
    go_wp2_with fail
    refine (fields_any _ _ _ _ _ hm2).mono ?_
    rintro e w3 ⟨rfl, q, rfl⟩
    clear hm2
    go_wp2
    go_ret
    exact ⟨rfl, below_drewN HB2.out⟩

set_option maxHeartbeats 1000000 in
theorem one_near (a0 a1 a2 a3 : Int) (w : World) (hp : 0 < a3) (hn : a3 ≤ 65536) (b1 : -9223372036854775808 ≤ a2) (b2 : a2 ≤ 9223372036854775807) :
    Calls Try.prog 3 #[.int .i64 a0, .int .i64 a1, .int .i64 a2, .int .i64 a3] w fun e w' => e = .returned (.bool true) ∧ Below w.heap.size w w' := by
  have hwant : cur a0 a3 = 0 := cur_pos hp
  have HWANT : Hid (cur a0 a3 = 0) := hwant
  clear hwant
  go_enter Try.func3, Try.ntmps3
  go_wp2_with fail
  refine (new_any _ _ _ _).mono ?_
  rintro e w1 ⟨rfl, rfl⟩
  go_wp2_with fail
  refine (write_any _ _ _ _ _ _ (mes_new w a0 a1 a2)).mono ?_
  rintro e w2 ⟨rfl, hm2, hb2⟩
  rw [HWANT.out] at hm2
  have HB2 : Hid (Below w.heap.size w w2) := ((Below.refl _ _).alloc (Nat.le_refl _) _).trans hb2
  clear hb2
  go_wp2_with fail
  refine (fields_any _ _ _ _ _ hm2).mono ?_
  rintro e w3 ⟨rfl, hq⟩
  have HB3 : Hid (Below w.heap.size w w3) := by obtain ⟨q, rfl⟩ := hq; exact below_drewN HB2.out
  clear hm2 hq HB2 HWANT
  go_wp2_with fail
  refine (new_any _ _ _ _).mono ?_
  rintro e w4 ⟨rfl, rfl⟩
  go_wp2_with fail
  go_loopw [15] (fun t wr => ∃ i : Nat, (i : Int) ≤ a3 ∧ t = .int .i64 i ∧ Mes wr w3.heap.size (if i = 0 then a0 else 0) a1 (wrap64 (a2 + i)) ∧ Below w.heap.size w wr)
    (fun t _ => a3.toNat - (intOf t).toNat)
  case atStart => exact ⟨0, by omega, rfl, by rw [if_pos rfl, show (a2 + ((0 : Nat) : Int)) = a2 by omega, wrap_same a2 b1 b2]; exact mes_new w3 a0 a1 a2, HB3.out.alloc HB3.out.size _⟩
  case round =>
    obtain ⟨i, hi, rfl, hm, hb⟩ := hrel
    have HB : Hid (Below w.heap.size w wr) := hb
    clear hb
    by_cases hlt : (i : Int) < a3
    · go_wp2_with (go_at_call 7; refine (write_any _ _ _ _ _ _ hm).mono ?_; rintro e w5 ⟨rfl, hm5, hb5⟩)
      go_roundw
      case rel => exact ⟨i + 1, by omega, by go_num, by rw [cur_pos (by omega), wrap_step] at hm5; rw [if_neg (by omega)]; exact hm5, HB.out.trans (hb5.mono HB3.out.size)⟩
      case measure => simp [intOf]; omega
    · have ei : (i : Int) = a3 := by omega
      rw [if_neg (by omega), ei] at hm
      clear ei
      go_wp2_with (go_at_call 8; refine (fields_any _ _ _ _ _ hm).mono ?_; rintro e w5 ⟨rfl, q, rfl⟩)
      go_ret
      exact ⟨ret_bool (by simp), below_drewN HB.out⟩

theorem one_walk (a0 a1 a2 a3 : Int) (_w0 : (Lit.int .i64 a0).wf = true) (_w1 : (Lit.int .i64 a1).wf = true) (w2 : (Lit.int .i64 a2).wf = true) (_w3 : (Lit.int .i64 a3).wf = true) (w : World) :
    Calls Try.prog 3 #[.int .i64 a0, .int .i64 a1, .int .i64 a2, .int .i64 a3] w fun e w' => e = .returned (.bool true) ∧ Below w.heap.size w w' := by
  by_cases hp : 0 < a3
  · by_cases hn : a3 ≤ 65536
    · have hb := w2
      simp [Lit.wf] at hb
      exact one_near a0 a1 a2 a3 w hp hn hb.1 hb.2
    · exact one_far a0 a1 a2 a3 w 0 (cur_pos hp) (Or.inl ⟨hp, (rfl : (0 : Int) = 0), by omega⟩)
  · exact one_far a0 a1 a2 a3 w a0 (cur_neg hp) (Or.inr ⟨hp, (rfl : a0 = a0)⟩)
end Go.Proofs.Qxb6603561a
