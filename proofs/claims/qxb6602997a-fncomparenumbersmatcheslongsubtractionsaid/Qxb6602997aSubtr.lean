/-
  WALKS: zzCanonicalNumber (16), zzSubtractionSign (19).
-/
import Derived.Test.Qxb6602997aDigits
namespace Go.Proofs.Qxb6602997a
open Go.RowKit Plain

theorem canon_all {l : List UInt8} (h : ∀ (k : Nat) (c : UInt8), l[k]? = some c → dig c = true) (hn : 0 < l.length) :
    canon l = (decide (l.length = 1) || decide (l.head? ≠ some 48)) := by
  have ha : l.all dig = true := by
    rw [List.all_eq_true]; intro c hc
    obtain ⟨k, hk⟩ := List.getElem?_of_mem hc
    exact h k c hk
  unfold canon
  rw [ha]
  cases l with
  | nil => simp at hn
  | cons c t => simp
theorem canon_no {l : List UInt8} (k : Nat) (c : UInt8) (e : l[k]? = some c) (hc : dig c = false) : canon l = false := by
  have ha : l.all dig = false := by
    rw [List.all_eq_false]
    exact ⟨c, List.mem_of_getElem? e, by rw [hc]; simp⟩
  unfold canon; rw [ha]; simp
theorem canon_empty {l : List UInt8} (h : l.length = 0) : canon l = false := by
  rw [List.length_eq_zero_iff.1 h]; rfl

theorem last_canon (c : UInt8) (n : Nat) (h : ((n : Int) == 1) = false) : ((c.toNat : Int) != 48) = (decide (n = 1) || decide (some c ≠ some 48)) := by
  have h1 : ¬ n = 1 := by have := ne_of_beq_false h; omega
  rw [decide_eq_false h1, Bool.false_or, Bool.eq_iff_iff]
  simp only [bne_iff_ne, ne_eq, decide_eq_true_eq, Option.some.injEq]
  rw [← UInt8.toNat_inj]
  show ¬ (c.toNat : Int) = 48 ↔ ¬ c.toNat = 48
  omega

set_option maxHeartbeats 400000 in
theorem canon_any (s : ByteArray) (w : World) (hs : s.size ≤ 4000000000000000000) :
    Calls Try.prog 16 #[.string s] w fun e w' => e = .returned (.bool (canon s.data.toList)) ∧ w' = w := by
  by_cases h0 : ((s.size : Int) == 0) = true
  · have HE : Hid (canon s.data.toList = false) := canon_empty (by rw [len_data]; have := eq_of_beq h0; omega)
    go_enter Try.func16, Try.ntmps16
    go_wp2
    go_ret
    exact ⟨ret_bool (by rw [HE.out]), rfl⟩
  · have h0' : ((s.size : Int) == 0) = false := by simpa using h0
    have hpos : 0 < s.size := by have := ne_of_beq_false h0'; omega
    clear h0
    go_enter Try.func16, Try.ntmps16
    go_wp2
    go_loop [3] (fun t => ∃ k : Nat, k ≤ s.size ∧ t = .int .i64 k ∧ ∀ (j : Nat) (c : UInt8), j < k → s.data.toList[j]? = some c → dig c = true) (fun t => s.size - (intOf t).toNat)
    case atStart => exact ⟨0, Nat.zero_le _, rfl, fun j c h => absurd h (by omega)⟩
    case round =>
      obtain ⟨k, hk, rfl, hall⟩ := hrel
      have HALL : Hid (∀ (j : Nat) (c : UInt8), j < k → s.data.toList[j]? = some c → dig c = true) := hall
      clear hall
      by_cases hlt : k < s.size
      · by_cases hd : dig s[k] = true
        · go_wp2_with (go_at_call 13; refine (isDec_any _ _).mono ?_; rintro e w' ⟨rfl, rfl⟩)
          go_round
          case rel =>
            refine ⟨k + 1, by omega, by go_num, ?_⟩
            intro j c hj e
            by_cases hjk : j < k
            · exact HALL.out j c hjk e
            · have : j = k := by omega
              subst this
              rw [byte_at s j hlt] at e
              simp at e; subst e; exact hd
          case measure => simp [intOf]; omega
        · have hd' : dig s[k] = false := by simpa using hd
          clear hd
          go_wp2_with (go_at_call 13; refine (isDec_any _ _).mono ?_; rintro e w' ⟨rfl, rfl⟩)
          go_ret
          exact ⟨ret_bool (by rw [canon_no k _ (byte_at s k hlt) hd']), rfl⟩
      · have HC : Hid (canon s.data.toList = (decide (s.data.toList.length = 1) || decide (s.data.toList.head? ≠ some 48))) :=
          canon_all (fun j c e => HALL.out j c (by have := (List.getElem?_eq_some_iff.1 e).1; rw [len_data] at this; omega) e) (by rw [len_data]; omega)
        have HH : Hid (s.data.toList.head? = some s[0]) := by
          have := byte_at s 0 hpos
          rw [← List.head?_eq_getElem?] at this; exact this
        by_cases h1 : ((s.size : Int) == 1) = true
        · go_wp2
          go_ret
          exact ⟨ret_bool (by rw [HC.out, len_data]; have := eq_of_beq h1; rw [decide_eq_true (by omega : s.size = 1)]; rfl), rfl⟩
        · have h1' : ((s.size : Int) == 1) = false := by simpa using h1
          clear h1
          go_wp2
          go_ret
          refine ⟨ret_bool ?_, rfl⟩
          rw [HC.out, HH.out, len_data]
          exact last_canon _ _ h1'

theorem bor_bd (l m : List UInt8) (k : Nat) : 0 ≤ bor l m k ∧ bor l m k ≤ 1 := by unfold bor; split <;> omega
theorem sub_step (l m : List UInt8) (k : Nat) : (dgt l k < dgt m k ∧ sub l m (k + 1) = -1) ∨ (dgt m k < dgt l k ∧ sub l m (k + 1) = 1) ∨ (dgt l k = dgt m k ∧ sub l m (k + 1) = sub l m k) := by
  by_cases h1 : dgt l k < dgt m k
  · left; exact ⟨h1, by simp only [sub]; rw [if_pos h1]⟩
  · by_cases h2 : dgt m k < dgt l k
    · right; left; exact ⟨h2, by simp only [sub]; rw [if_neg h1, if_pos h2]⟩
    · right; right; exact ⟨by omega, by simp only [sub]; rw [if_neg h1, if_neg h2]⟩
theorem bor_cases (l m : List UInt8) (k : Nat) : (sub l m k = -1 ∧ bor l m k = 1) ∨ (sub l m k = 0 ∧ bor l m k = 0) ∨ (sub l m k = 1 ∧ bor l m k = 0) := by
  unfold bor
  rcases sub_three l m k with h | h | h <;> simp [h]
theorem nz_yes {l m : List UInt8} {k : Nat} (h : sub l m k ≠ 0) : nz l m k = true := by simp [nz, h]
theorem nz_same {l m : List UInt8} {k j : Nat} (h : sub l m k = 0 ↔ sub l m j = 0) : nz l m k = nz l m j := by simp [nz, h]
section
variable {l m : List UInt8} {k : Nat} {D : Int}
theorem bor_one (h : D < 0) (hD : D = dgt l k - dgt m k - bor l m k) : 1 = bor l m (k + 1) := by
  have := sub_step l m k; have := bor_cases l m k; have := bor_cases l m (k + 1); omega
theorem bor_zero (h : 0 ≤ D) (hD : D = dgt l k - dgt m k - bor l m k) : 0 = bor l m (k + 1) := by
  have := sub_step l m k; have := bor_cases l m k; have := bor_cases l m (k + 1); omega
theorem way1 (_h2 : (D + 10 != 0) = true) (h : D < 0) (hD : D = dgt l k - dgt m k - bor l m k) : 1 = bor l m (k + 1) ∧ true = nz l m (k + 1) := by
  have := sub_step l m k; have := bor_cases l m k; have := bor_cases l m (k + 1)
  exact ⟨bor_one h hD, (nz_yes (by omega)).symm⟩
theorem way2 (h2 : (D + 10 != 0) = false) (h : D < 0) (hD : D = dgt l k - dgt m k - bor l m k) (r1 : 0 ≤ dgt l k ∧ dgt l k ≤ 9) (r2 : 0 ≤ dgt m k ∧ dgt m k ≤ 9) : 1 = bor l m (k + 1) ∧ nz l m k = nz l m (k + 1) := by
  have := sub_step l m k; have := bor_cases l m k; have := bor_cases l m (k + 1)
  have h3 : D + 10 = 0 := by simpa using h2
  exact ⟨bor_one h hD, nz_same (by omega)⟩
theorem way3 (h2 : (D != 0) = true) (h : 0 ≤ D) (hD : D = dgt l k - dgt m k - bor l m k) : 0 = bor l m (k + 1) ∧ true = nz l m (k + 1) := by
  have := sub_step l m k; have := bor_cases l m k; have := bor_cases l m (k + 1)
  have h3 : D ≠ 0 := by simpa using h2
  exact ⟨bor_zero h hD, (nz_yes (by omega)).symm⟩
theorem way4 (h2 : (D != 0) = false) (h : 0 ≤ D) (hD : D = dgt l k - dgt m k - bor l m k) : 0 = bor l m (k + 1) ∧ nz l m k = nz l m (k + 1) := by
  have := sub_step l m k; have := bor_cases l m k; have := bor_cases l m (k + 1)
  have h3 : D = 0 := by simpa using h2
  exact ⟨bor_zero h hD, nz_same (by omega)⟩
end
theorem dgt_in (s : ByteArray) (hc : canon s.data.toList = true) (k : Nat) (h : k < s.size) : dgt s.data.toList k = ((s[s.size - 1 - k].toNat : Int) - 48) % 256 := by
  have hr := dgt_range s.data.toList hc k
  have hlt : s.size - 1 - k < s.size := by omega
  have e : dgt s.data.toList k = ((s[s.size - 1 - k].toNat : Int) - 48) := by
    unfold dgt; rw [if_pos (by rw [len_data]; exact h), len_data, List.getD_eq_getElem?_getD, byte_at s _ hlt]; rfl
  omega
theorem dgt_out (s : ByteArray) (k : Nat) (h : ¬ k < s.size) : dgt s.data.toList k = 0 := by
  unfold dgt; rw [if_neg (by rw [len_data]; exact h)]

set_option maxHeartbeats 2000000 in
theorem subtr_any (x y : ByteArray) (w : World) (hx : x.size ≤ 4000000000000000000) (hy : y.size ≤ 4000000000000000000) (cx : canon x.data.toList = true) (cy : canon y.data.toList = true) :
    Calls Try.prog 19 #[.string x, .string y] w fun e w' => e = .returned (.int .i64 (sub x.data.toList y.data.toList (max x.size y.size))) ∧ w' = w := by
  by_cases hl : (x.size : Int) < y.size
  all_goals
    go_enter Try.func19, Try.ntmps19
    go_wp2
    go_loop [6, 7, 8] (fun b z t => ∃ k : Nat, k ≤ max x.size y.size ∧ t = .int .i64 k ∧ b = .int .i64 (bor x.data.toList y.data.toList k) ∧ z = .bool (nz x.data.toList y.data.toList k)) (fun _ _ t => max x.size y.size - (intOf t).toNat)
    case atStart => exact ⟨0, Nat.zero_le _, rfl, rfl, rfl⟩
    case round =>
      obtain ⟨k, hk, rfl, rfl, rfl⟩ := hrel
      by_cases hlt : k < max x.size y.size
      · have hb := bor_bd x.data.toList y.data.toList k
        have RX : Hid (0 ≤ dgt x.data.toList k ∧ dgt x.data.toList k ≤ 9) := dgt_range x.data.toList cx k
        have RY : Hid (0 ≤ dgt y.data.toList k ∧ dgt y.data.toList k ≤ 9) := dgt_range y.data.toList cy k
        by_cases h1 : k < x.size
        all_goals
          by_cases h2 : k < y.size
          all_goals
            first | have DX : Hid (dgt x.data.toList k = ((x[x.size - 1 - k].toNat : Int) - 48) % 256) := dgt_in x cx k h1 | have DX : Hid (dgt x.data.toList k = 0) := dgt_out x k h1
            first | have DY : Hid (dgt y.data.toList k = ((y[y.size - 1 - k].toNat : Int) - 48) % 256) := dgt_in y cy k h2 | have DY : Hid (dgt y.data.toList k = 0) := dgt_out y k h2
            first | (exfalso; omega) | skip
          all_goals
            go_wp2
            all_goals
              go_round
              case rel =>
                first
                  | (obtain ⟨q1, q2⟩ := way1 (l := x.data.toList) (m := y.data.toList) (k := k) (by assumption) (by assumption) (by have := DX.out; have := DY.out; omega); exact ⟨k + 1, by omega, by go_num, congrArg _ q1, congrArg _ q2⟩)
                  | (obtain ⟨q1, q2⟩ := way2 (l := x.data.toList) (m := y.data.toList) (k := k) (by assumption) (by assumption) (by have := DX.out; have := DY.out; omega) RX.out RY.out; exact ⟨k + 1, by omega, by go_num, congrArg _ q1, congrArg _ q2⟩)
                  | (obtain ⟨q1, q2⟩ := way3 (l := x.data.toList) (m := y.data.toList) (k := k) (by assumption) (by assumption) (by have := DX.out; have := DY.out; omega); exact ⟨k + 1, by omega, by go_num, congrArg _ q1, congrArg _ q2⟩)
                  | (obtain ⟨q1, q2⟩ := way4 (l := x.data.toList) (m := y.data.toList) (k := k) (by assumption) (by assumption) (by have := DX.out; have := DY.out; omega); exact ⟨k + 1, by omega, by go_num, congrArg _ q1, congrArg _ q2⟩)
              case measure => simp [intOf]; omega
      · have ek : k = max x.size y.size := by omega
        have EK : Hid (k = max x.size y.size) := ek
        clear ek
        rcases bor_cases x.data.toList y.data.toList k with ⟨e1, e2⟩ | ⟨e1, e2⟩ | ⟨e1, e2⟩
        · have E1 : Hid (sub x.data.toList y.data.toList k = -1) := e1
          clear e1
          go_wp2
          go_ret
          exact ⟨ret_int (by rw [← EK.out, E1.out]), rfl⟩
        · have E1 : Hid (sub x.data.toList y.data.toList k = 0) := e1
          have hnz : nz x.data.toList y.data.toList k = false := by simp [nz, e1]
          clear e1
          rw [hnz]
          go_wp2
          go_ret
          exact ⟨ret_int (by rw [← EK.out, E1.out]), rfl⟩
        · have E1 : Hid (sub x.data.toList y.data.toList k = 1) := e1
          have hnz : nz x.data.toList y.data.toList k = true := by simp [nz, e1]
          clear e1
          rw [hnz]
          go_wp2
          go_ret
          exact ⟨ret_int (by rw [← EK.out, E1.out]), rfl⟩
end Go.Proofs.Qxb6602997a
