/-
  WALK: trimZeros (32).
-/
import Derived.Test.Qxb6602997aDigits
import Derived.Lib.IndexBytes
namespace Go.Proofs.Qxb6602997a
open Go.RowKit Plain

def trimB (s : ByteArray) : ByteArray := ⟨(trim s.data.toList).toArray⟩
def strLen (v : Value) : Nat := match v with
  | .string d => d.size
  | _ => 0
theorem trimB_data (s : ByteArray) : (trimB s).data.toList = trim s.data.toList := by simp [trimB]
theorem bytes_ext {s t : ByteArray} (h : s.data.toList = t.data.toList) : s = t := by
  cases s; cases t; simp at h; rw [h]
theorem trimB_size (s : ByteArray) : (trimB s).size ≤ s.size := by
  have := trim_le s.data.toList
  rw [← trimB_data, len_data, len_data] at this; exact this
theorem ret_str {a b : ByteArray} (h : a = b) : Ending.returned (.string a) = .returned (.string b) := by rw [h]
theorem head_data (d : ByteArray) (h : 0 < d.size) : d.data.toList = d[0] :: (d.extract 1 d.size).data.toList := by
  rw [Lib.extract_to_end]
  have := drop_cons d.data.toList 0 d[0] (byte_at d 0 h)
  simpa using this
theorem tail_size (d : ByteArray) : (d.extract 1 d.size).size = d.size - 1 := by
  rw [← len_data, Lib.extract_to_end, List.length_drop, len_data]
theorem trim_more (d : ByteArray) (h : 1 < d.size) (hz : ((d[0].toNat : Int) == 48) = true) : trim (d.extract 1 d.size).data.toList = trim d.data.toList := by
  have hz' := eq_of_beq hz
  rw [head_data d (by omega), trim_zero _ _ (by omega)]
  intro e
  have := len_data (d.extract 1 d.size)
  rw [e, tail_size] at this; simp at this; omega
theorem trim_done (d : ByteArray) (h : 1 < d.size) (hz : ((d[0].toNat : Int) == 48) = false) : trim d.data.toList = d.data.toList := by
  have hz' := ne_of_beq_false hz
  rw [head_data d (by omega)]
  exact trim_stop _ _ (Or.inr (by omega))
theorem trim_short (d : ByteArray) (h : ¬ 1 < d.size) : trim d.data.toList = d.data.toList := by
  have := len_data d
  match hd : d.data.toList with
  | [] => rfl
  | [c] => rfl
  | c :: e :: t => rw [hd] at this; simp at this; omega

set_option maxHeartbeats 400000 in
theorem trim_any (s : ByteArray) (w : World) :
    Calls Try.prog 32 #[.string s] w fun e w' => e = .returned (.string (trimB s)) ∧ w' = w := by
  go_enter Try.func32, Try.ntmps32
  go_wp2
  go_loop [0] (fun v => ∃ d : ByteArray, d.size ≤ s.size ∧ v = .string d ∧ trim d.data.toList = trim s.data.toList) (fun v => strLen v)
  case atStart => exact ⟨s, Nat.le_refl _, rfl, rfl⟩
  case round =>
    obtain ⟨d, hd1, rfl, hd2⟩ := hrel
    have HD : Hid (trim d.data.toList = trim s.data.toList) := hd2
    clear hd2
    by_cases h1 : 1 < d.size
    · by_cases hz : ((d[0].toNat : Int) == 48) = true
      · go_wp2
        go_round
        case rel => exact ⟨d.extract 1 d.size, by rw [tail_size]; omega, rfl, by rw [trim_more d h1 hz, HD.out]⟩
        case measure => simp [strLen]; omega
      · have hz' : ((d[0].toNat : Int) == 48) = false := by simpa using hz
        clear hz
        go_wp2
        go_ret
        exact ⟨ret_str (bytes_ext (by rw [trimB_data, ← HD.out, trim_done d h1 hz'])), rfl⟩
    · go_wp2
      go_ret
      exact ⟨ret_str (bytes_ext (by rw [trimB_data, ← HD.out, trim_short d h1])), rfl⟩
end Go.Proofs.Qxb6602997a
