/-
  WALKS: compareRules (29), ZZcompareRules (23).
-/
import Derived.Test.Qxb6602997aNumbers
import Derived.Test.Qxb6602997aTrim
import Derived.Deep.QuietTactic
import Derived.BigQuiet
namespace Go.Proofs.Qxb6602997a
open Go.RowKit Plain

theorem seg_data (s : ByteArray) (i j : Nat) : (s.extract i j).data.toList = seg s.data.toList i j := Lib.extract_data s i j
theorem seg_size (s : ByteArray) (i j : Nat) : (s.extract i j).size ≤ s.size := by
  rw [← len_data, seg_data]; unfold seg; rw [← len_data]; simp; omega

/-- the answers that compareRules may give -/
def Ans (a b : ByteArray) (c : Int) : Prop := sgn c = nat a.data.toList b.data.toList ∧ -(max 255 (max a.size b.size) : Nat) ≤ c ∧ c ≤ (max 255 (max a.size b.size) : Nat)

theorem ans_bytes {a b : ByteArray} {i j : Nat} (h : Even a.data.toList b.data.toList i j) (hi : i < a.size) (hj : j < b.size) (hb : ¬ (dig a[i] = true ∧ dig b[j] = true))
    (hne : ((a[i].toNat : Int) != (b[j].toNat : Int)) = true) : Ans a b ((a[i].toNat : Int) - (b[j].toNat : Int)) := by
  have hn : (a[i].toNat : Int) ≠ (b[j].toNat : Int) := by simpa using hne
  have h1 := a[i].toNat_lt
  have h2 := b[j].toNat_lt
  exact ⟨(end_bytes h _ _ (byte_at a i hi) (byte_at b j hj) hb (by omega)).symm, by omega, by omega⟩
theorem even_next {a b : ByteArray} {i j : Nat} (h : Even a.data.toList b.data.toList i j) (hi : i < a.size) (hj : j < b.size) (hb : ¬ (dig a[i] = true ∧ dig b[j] = true))
    (hne : ((a[i].toNat : Int) != (b[j].toNat : Int)) = false) : Even a.data.toList b.data.toList (i + 1) (j + 1) := by
  have hn : (a[i].toNat : Int) = (b[j].toNat : Int) := by simpa using hne
  have e : a[i] = b[j] := UInt8.toNat_inj.1 (by omega)
  have hd : dig a[i] = false := by
    cases hd : dig a[i] with
    | false => rfl
    | true => exact absurd ⟨hd, e ▸ hd⟩ hb
  exact even_plain h a[i] (byte_at a i hi) (by rw [e]; exact byte_at b j hj) hd

theorem byte_diff (c d : UInt8) : wrap64 (wrap64 (c.toNat : Int) - wrap64 (d.toNat : Int)) = (c.toNat : Int) - d.toNat := by
  have h1 := c.toNat_lt
  have h2 := d.toNat_lt
  unfold wrap64; omega
theorem run_facts {a b : ByteArray} {i j : Nat} (h : Even a.data.toList b.data.toList i j) (hi : i < a.size) (hj : j < b.size) (ha : a.size ≤ 8388608) (hb : b.size ≤ 8388608)
    (da : dig a[i] = true) (db : dig b[j] = true) (x y : Nat) (hx : rEnd a.data.toList i = x) (hy : rEnd b.data.toList j = y) (c : Int)
    (hc : cmpN (trim (a.extract i x).data.toList) (trim (b.extract j y).data.toList) = c) :
    ((c != 0) = true → Ans a b c) ∧ ((c != 0) = false → Even a.data.toList b.data.toList x y) := by
  rw [seg_data, seg_data, ← hx, ← hy] at hc
  constructor
  · intro hn
    have hn' : c ≠ 0 := by simpa using hn
    rw [← hc] at hn'
    have e := end_run h _ _ (byte_at a i hi) (byte_at b j hj) da db (by rw [len_data]; omega) (by rw [len_data]; omega) hn'
    rw [hc] at e
    have hl1 := trim_le (seg a.data.toList i (rEnd a.data.toList i))
    have hl2 := trim_le (seg b.data.toList j (rEnd b.data.toList j))
    have q1 : (seg a.data.toList i (rEnd a.data.toList i)).length ≤ a.size := by rw [← seg_data, len_data]; exact seg_size _ _ _
    have q2 : (seg b.data.toList j (rEnd b.data.toList j)).length ≤ b.size := by rw [← seg_data, len_data]; exact seg_size _ _ _
    have hbd := cmpN_bd (trim (seg a.data.toList i (rEnd a.data.toList i))) (trim (seg b.data.toList j (rEnd b.data.toList j)))
    rw [hc] at hbd
    exact ⟨e.symm, by omega, by omega⟩
  · intro hn
    have hn' : c = 0 := by simpa using hn
    rw [hn'] at hc
    have e := even_run h _ _ (byte_at a i hi) (byte_at b j hj) da db hc
    rw [hx, hy] at e; exact e
theorem ans_len {a b : ByteArray} {i j : Nat} (h : Even a.data.toList b.data.toList i j) (hi : i ≤ a.size) (hj : j ≤ b.size) (hx : ¬ (i < a.size ∧ j < b.size))
    (hne : ((a.size : Int) - i - ((b.size : Int) - j) != 0) = true) : Ans a b ((a.size : Int) - i - ((b.size : Int) - j)) := by
  have hn : (a.size : Int) - i - ((b.size : Int) - j) ≠ 0 := by simpa using hne
  have e := end_len h (by rw [len_data]; exact hi) (by rw [len_data]; exact hj) (by rw [len_data, len_data]; exact hx) (by rw [len_data, len_data]; exact hn)
  rw [len_data, len_data] at e
  exact ⟨e.symm, by omega, by omega⟩
theorem ans_tie {a b : ByteArray} {i j : Nat} (h : Even a.data.toList b.data.toList i j) (hi : i ≤ a.size) (hj : j ≤ b.size) (hx : ¬ (i < a.size ∧ j < b.size))
    (hne : ((a.size : Int) - i - ((b.size : Int) - j) != 0) = false) (c : Int) (hc : lx a.data.toList b.data.toList = c) : Ans a b c := by
  have hn : (a.size : Int) - i - ((b.size : Int) - j) = 0 := by simpa using hne
  have e := end_tie h (by rw [len_data]; exact hi) (by rw [len_data]; exact hj) (by rw [len_data, len_data]; exact hx) (by rw [len_data, len_data]; exact hn)
  have h3 := lx_three a.data.toList b.data.toList
  have hs := sgn_lx a.data.toList b.data.toList
  rw [hc] at h3 hs e
  exact ⟨by rw [e, hs], by omega, by omega⟩
theorem cmp_trim (s t : ByteArray) (w : World) (hs : s.size ≤ 4000000000000000000) (ht : t.size ≤ 4000000000000000000) :
    Calls Try.prog 28 #[.string (trimB s), .string (trimB t)] w fun e w' => e = .returned (.int .i64 (cmpN (trim s.data.toList) (trim t.data.toList))) ∧ w' = w := by
  have := cmp_any (trimB s) (trimB t) w (by have := trimB_size s; omega) (by have := trimB_size t; omega)
  rw [trimB_data, trimB_data] at this; exact this

set_option maxRecDepth 8000 in
set_option maxHeartbeats 1000000 in
theorem rules_any (a b : ByteArray) (w : World) (ha : a.size ≤ 8388608) (hb : b.size ≤ 8388608) :
    Calls Try.prog 29 #[.string a, .string b] w fun e w' => ∃ c : Int, e = .returned (.int .i64 c) ∧ Ans a b c ∧ ∃ n, w' = w.drewN n := by
  go_enter Try.func29, Try.ntmps29
  go_wp2
  go_loopw [5, 6] (fun ti tj wr => ∃ i j n : Nat, i ≤ a.size ∧ j ≤ b.size ∧ ti = .int .i64 i ∧ tj = .int .i64 j ∧ Even a.data.toList b.data.toList i j ∧ wr = w.drewN n)
    (fun ti tj _ => (a.size - (intOf ti).toNat) + (b.size - (intOf tj).toNat))
  case atStart => exact ⟨0, 0, 0, Nat.zero_le _, Nat.zero_le _, rfl, rfl, even_start _ _, rfl⟩
  case round =>
    obtain ⟨i, j, n, hi, hj, rfl, rfl, hev, hwr⟩ := hrel
    have HW : Hid (∀ q, ∃ m, wr.drewN q = w.drewN m) := fun q => ⟨n + q, by rw [hwr]; exact World.drewN_drewN _ _ _⟩
    have HW0 : Hid (∃ m, wr = w.drewN m) := ⟨n, hwr⟩
    clear hwr
    have HEV : Hid (Even a.data.toList b.data.toList i j) := hev
    clear hev
    by_cases hia : i < a.size
    · by_cases hjb : j < b.size
      · by_cases hda : dig a[i] = true
        · by_cases hdb : dig b[j] = true
          · obtain ⟨x, hx⟩ : ∃ x, rEnd a.data.toList i = x := ⟨_, rfl⟩
            obtain ⟨y, hy⟩ : ∃ y, rEnd b.data.toList j = y := ⟨_, rfl⟩
            have hx1 := rEnd_ge a.data.toList i
            have hx2 := rEnd_le a.data.toList i (by rw [len_data]; omega)
            have hy1 := rEnd_ge b.data.toList j
            have hy2 := rEnd_le b.data.toList j (by rw [len_data]; omega)
            have hx3 := rEnd_yes a.data.toList i _ (byte_at a i hia) hda
            have hx4 := rEnd_ge a.data.toList (i + 1)
            rw [len_data] at hx2 hy2
            rw [← hx3] at hx4
            clear hx3
            rw [hx] at hx1 hx2 hx4
            rw [hy] at hy1 hy2
            have dA : ∀ w, Calls Try.prog 27 #[.string a, .int .i64 (i : Int)] w fun e w' => e = .returned (.int .i64 (x : Nat)) ∧ w' = w := by
              intro w; have := digitRun_any a i w (by omega) (by omega); rw [hx] at this; exact this
            have dB : ∀ w, Calls Try.prog 27 #[.string b, .int .i64 (j : Int)] w fun e w' => e = .returned (.int .i64 (y : Nat)) ∧ w' = w := by
              intro w; have := digitRun_any b j w (by omega) (by omega); rw [hy] at this; exact this
            obtain ⟨c, hc⟩ : ∃ c, cmpN (trim (a.extract i x).data.toList) (trim (b.extract j y).data.toList) = c := ⟨_, rfl⟩
            have s1 := seg_size a i x
            have s2 := seg_size b j y
            have c0 : ∀ w, Calls Try.prog 28 #[.string (trimB (a.extract i x)), .string (trimB (b.extract j y))] w fun e w' => e = .returned (.int .i64 c) ∧ w' = w := by
              intro w; have := cmp_trim (a.extract i x) (b.extract j y) w (by omega) (by omega); rw [hc] at this; exact this
            have FF := run_facts HEV.out hia hjb ha hb hda hdb x y hx hy c hc
            have F1 : Hid ((c != 0) = true → Ans a b c) := FF.1
            have F2 : Hid ((c != 0) = false → Even a.data.toList b.data.toList x y) := FF.2
            clear FF hx hy hc s1 s2
            go_wp2_with (go_at_call 31; refine (isDigit_any _ _).mono ?_; rintro e w' ⟨rfl, rfl⟩)
            refine (dA _).mono ?_
            rintro e w' ⟨rfl, rfl⟩
            go_wp2_with fail
            refine (dB _).mono ?_
            rintro e w' ⟨rfl, rfl⟩
            go_wp2_with fail
            go_quiet (first | (go_at_call 32; exact Calls.quiet_of_same (trim_any _ _)) | (go_at_call 28; exact Calls.quiet_of_same (c0 _)))
            go_wp2
            · have hne : (c != 0) = true := by assumption
              go_ret
              exact ⟨c, rfl, F1.out hne, HW.out _⟩
            · have hne : (c != 0) = false := by assumption
              go_roundw
              case rel =>
                obtain ⟨m, hm⟩ := HW.out nq
                exact ⟨x, y, m, hx2, hy2, rfl, rfl, F2.out hne, hm⟩
              case measure => simp [intOf]; omega
          · have hdb' : dig b[j] = false := by simpa using hdb
            have HN : Hid (¬ (dig a[i] = true ∧ dig b[j] = true)) := fun h => hdb h.2
            clear hdb
            go_wp2_with (go_at_call 31; refine (isDigit_any _ _).mono ?_; rintro e w' ⟨rfl, rfl⟩)
            go_quiet (fail)
            go_wp2
            · have hne : ((a[i].toNat : Int) != (b[j].toNat : Int)) = true := by assumption
              have A := ans_bytes HEV.out hia hjb HN.out hne
              go_quiet (fail)
              go_wp2
              go_ret
              exact ⟨_, ret_int (byte_diff _ _), A, by rw [World.drewN_drewN]; exact HW.out _⟩
            · have hne : ((a[i].toNat : Int) != (b[j].toNat : Int)) = false := by assumption
              go_roundw
              case rel =>
                obtain ⟨m, hm⟩ := HW.out nq
                exact ⟨i + 1, j + 1, m, by omega, by omega, by go_num, by go_num, even_next HEV.out hia hjb HN.out hne, hm⟩
              case measure => simp [intOf]; omega
        · have hda' : dig a[i] = false := by simpa using hda
          have HN : Hid (¬ (dig a[i] = true ∧ dig b[j] = true)) := fun h => hda h.1
          clear hda
          go_wp2_with (go_at_call 31; refine (isDigit_any _ _).mono ?_; rintro e w' ⟨rfl, rfl⟩)
          go_quiet (fail)
          go_wp2
          · have hne : ((a[i].toNat : Int) != (b[j].toNat : Int)) = true := by assumption
            have A := ans_bytes HEV.out hia hjb HN.out hne
            go_quiet (fail)
            go_wp2
            go_ret
            exact ⟨_, ret_int (byte_diff _ _), A, by rw [World.drewN_drewN]; exact HW.out _⟩
          · have hne : ((a[i].toNat : Int) != (b[j].toNat : Int)) = false := by assumption
            go_roundw
            case rel =>
              obtain ⟨m, hm⟩ := HW.out nq
              exact ⟨i + 1, j + 1, m, by omega, by omega, by go_num, by go_num, even_next HEV.out hia hjb HN.out hne, hm⟩
            case measure => simp [intOf]; omega
      · -- b is at its end
        have HX : Hid (¬ (i < a.size ∧ j < b.size)) := fun h => hjb h.2
        by_cases hne : ((a.size : Int) - i - ((b.size : Int) - j) != 0) = true
        · have A := ans_len HEV.out hi hj HX.out hne
          have HA : Hid (Ans a b ((a.size : Int) - i - ((b.size : Int) - j))) := A
          clear A
          go_wp2
          go_ret
          exact ⟨_, rfl, HA.out, HW0.out⟩
        · have hne' : ((a.size : Int) - i - ((b.size : Int) - j) != 0) = false := by simpa using hne
          clear hne
          have A := ans_tie HEV.out hi hj HX.out hne'
          have HA : Hid (∀ c, lx a.data.toList b.data.toList = c → Ans a b c) := A
          clear A
          by_cases h1 : Op.bytesLess a.toList b.toList = true
          · have HL : Hid (lx a.data.toList b.data.toList = -1) := less_yes h1
            go_wp2
            go_ret
            exact ⟨_, rfl, HA.out _ HL.out, HW0.out⟩
          · have h1' : Op.bytesLess a.toList b.toList = false := by simpa using h1
            clear h1
            by_cases h2 : (a.toList == b.toList) = true
            · have HL : Hid (lx a.data.toList b.data.toList = 0) := same_yes h2
              go_wp2
              go_ret
              exact ⟨_, rfl, HA.out _ HL.out, HW0.out⟩
            · have h2' : (a.toList == b.toList) = false := by simpa using h2
              clear h2
              have A1 : lx a.data.toList b.data.toList = 1 := by
                have := less_no h1'
                have := same_no h2'
                omega
              have HL : Hid (lx a.data.toList b.data.toList = 1) := A1
              clear A1
              go_wp2
              go_ret
              exact ⟨_, rfl, HA.out _ HL.out, HW0.out⟩
    · -- a is at its end
      have HX : Hid (¬ (i < a.size ∧ j < b.size)) := fun h => hia h.1
      by_cases hne : ((a.size : Int) - i - ((b.size : Int) - j) != 0) = true
      · have A := ans_len HEV.out hi hj HX.out hne
        have HA : Hid (Ans a b ((a.size : Int) - i - ((b.size : Int) - j))) := A
        clear A
        go_wp2
        go_ret
        exact ⟨_, rfl, HA.out, HW0.out⟩
      · have hne' : ((a.size : Int) - i - ((b.size : Int) - j) != 0) = false := by simpa using hne
        clear hne
        have A := ans_tie HEV.out hi hj HX.out hne'
        have HA : Hid (∀ c, lx a.data.toList b.data.toList = c → Ans a b c) := A
        clear A
        by_cases h1 : Op.bytesLess a.toList b.toList = true
        · have HL : Hid (lx a.data.toList b.data.toList = -1) := less_yes h1
          go_wp2
          go_ret
          exact ⟨_, rfl, HA.out _ HL.out, HW0.out⟩
        · have h1' : Op.bytesLess a.toList b.toList = false := by simpa using h1
          clear h1
          by_cases h2 : (a.toList == b.toList) = true
          · have HL : Hid (lx a.data.toList b.data.toList = 0) := same_yes h2
            go_wp2
            go_ret
            exact ⟨_, rfl, HA.out _ HL.out, HW0.out⟩
          · have h2' : (a.toList == b.toList) = false := by simpa using h2
            clear h2
            have A1 : lx a.data.toList b.data.toList = 1 := by
              have := less_no h1'
              have := same_no h2'
              omega
            have HL : Hid (lx a.data.toList b.data.toList = 1) := A1
            clear A1
            go_wp2
            go_ret
            exact ⟨_, rfl, HA.out _ HL.out, HW0.out⟩

theorem ZZrules_any (a b : ByteArray) (w : World) (ha : a.size ≤ 8388608) (hb : b.size ≤ 8388608) :
    Calls Try.prog 23 #[.string a, .string b] w fun e w' => ∃ c : Int, e = .returned (.int .i64 c) ∧ Ans a b c ∧ ∃ n, w' = w.drewN n := by
  go_enter Try.func23, Try.ntmps23
  go_wp2_with (go_at_call 29; refine (rules_any _ _ _ ha hb).mono ?_; rintro e w' ⟨c, rfl, hc, hw⟩)
  go_ret
  exact ⟨c, rfl, hc, hw⟩
end Go.Proofs.Qxb6602997a
