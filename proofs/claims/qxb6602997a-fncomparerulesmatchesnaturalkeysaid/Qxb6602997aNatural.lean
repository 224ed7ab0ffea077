/-
  WALK: zzNaturalSign (24).
-/
import Derived.Test.Qxb6602997aKey
import Derived.Test.Qxb6602997aNumbers
import Derived.Laws.BytesArg
namespace Go.Proofs.Qxb6602997a
open Go.RowKit Plain

def keyB (s : ByteArray) : ByteArray := ⟨(key s.data.toList).toArray⟩
theorem keyB_data (s : ByteArray) : (keyB s).data.toList = key s.data.toList := by simp [keyB]

theorem has_string {B : Nat} {w wr : World} {v : Value} {L : List UInt8} (h : Has B w wr v L) :
    (convert 31 9 v).run Try.prog wr = .ok (.string ⟨L.toArray⟩) wr := by
  obtain ⟨⟨hl, hv⟩, -, -⟩ := h
  have hown : wr.ownsRow B 5 1 v L.length (L.map bv) := ⟨hl, hv⟩
  rcases hv with ⟨rfl, hn⟩ | ⟨g, cap, cur, rfl, hg⟩
  · have : L = [] := List.length_eq_zero_iff.1 hn
    subst this
    exact run_convert_bytes_nil wr 31 5 Try.underlying31 Try.underlying5 0 0 9 Try.underlying9
  · have hc := hown.cells (g := g) rfl
    have e := run_convert_bytes_arg (P := Try.prog) wr 31 5 Try.underlying31 Try.underlying5 g 0 L.length cap (L.map fun c => (c.toNat : Int)) (by simp) (fun i hi => by
      have := hc i (bv L[i]) (by simp [hi])
      have hplain : (⟨g, 0, none⟩ : Addr).add i = ⟨g, 0 + i, none⟩ := by unfold Addr.add; split <;> simp_all
      rw [hplain] at this
      rw [this]
      simp [bv, List.getD, hi]) 9 Try.underlying9
    rw [e]
    have : strOfNums (L.map fun c => (c.toNat : Int)) = ⟨L.toArray⟩ := by
      simp [strOfNums, List.map_map]
      rw [show ((fun n : Int => UInt8.ofNat n.toNat) ∘ fun c : UInt8 => (c.toNat : Int)) = id from funext fun c => by simp]
      simp
    rw [this]

theorem nat_key {a b : ByteArray} {c : Int} (h : lx (keyB a).data.toList (keyB b).data.toList = c) (hc : c ≠ 0) : nat a.data.toList b.data.toList = c := by
  rw [keyB_data, keyB_data] at h
  rw [nat_of_lx (by rw [h]; exact hc), h]
theorem nat_tie {a b : ByteArray} (h : lx (keyB a).data.toList (keyB b).data.toList = 0) : nat a.data.toList b.data.toList = lx a.data.toList b.data.toList := by
  rw [keyB_data, keyB_data] at h
  unfold nat; rw [if_pos h]

set_option maxHeartbeats 400000 in
theorem natural_any (a b : ByteArray) (w : World) (ha : a.size ≤ 8388608) (hb : b.size ≤ 8388608) :
    Calls Try.prog 24 #[.string a, .string b] w fun e w' => e = .returned (.int .i64 (nat a.data.toList b.data.toList)) ∧ Below w.heap.size w w' := by
  go_enter Try.func24, Try.ntmps24
  go_wp2_with fail
  refine (key_any a _ ha).mono ?_
  rintro e w1 ⟨v1, rfl, h1⟩
  have hcv1 : (convert 31 9 v1).run Try.prog w1 = .ok (.string (keyB a)) w1 := has_string h1
  have HB1 : Hid (Below w.heap.size w w1) := h1.2.1
  clear h1
  go_wp2_with fail
  refine (key_any b _ hb).mono ?_
  rintro e w2 ⟨v2, rfl, h2⟩
  have hcv2 : (convert 31 9 v2).run Try.prog w2 = .ok (.string (keyB b)) w2 := has_string h2
  have HB2 : Hid (Below w.heap.size w w2) := HB1.out.trans (h2.2.1.mono HB1.out.size)
  clear h2 hcv1
  by_cases k1 : Op.bytesLess (keyB a).toList (keyB b).toList = true
  · have E : Hid (nat a.data.toList b.data.toList = -1) := nat_key (c := -1) (less_yes k1) (by omega)
    go_wp2
    go_ret
    exact ⟨ret_int (by rw [E.out]), HB2.out⟩
  · have k1' : Op.bytesLess (keyB a).toList (keyB b).toList = false := by simpa using k1
    clear k1
    by_cases k2 : ((keyB a).toList == (keyB b).toList) = true
    · have hz : lx (keyB a).data.toList (keyB b).data.toList = 0 := same_yes k2
      have HZ : Hid (nat a.data.toList b.data.toList = lx a.data.toList b.data.toList) := nat_tie hz
      clear hz
      by_cases l1 : Op.bytesLess a.toList b.toList = true
      · have E : Hid (lx a.data.toList b.data.toList = -1) := less_yes l1
        go_wp2
        go_ret
        exact ⟨ret_int (by rw [HZ.out, E.out]), HB2.out⟩
      · have l1' : Op.bytesLess a.toList b.toList = false := by simpa using l1
        clear l1
        by_cases l2 : (a.toList == b.toList) = true
        · have E : Hid (lx a.data.toList b.data.toList = 0) := same_yes l2
          go_wp2
          go_ret
          exact ⟨ret_int (by rw [HZ.out, E.out]), HB2.out⟩
        · have l2' : (a.toList == b.toList) = false := by simpa using l2
          clear l2
          have E0 : lx a.data.toList b.data.toList = 1 := by
            have := less_no l1'
            have := same_no l2'
            omega
          have E : Hid (lx a.data.toList b.data.toList = 1) := E0
          clear E0
          go_wp2
          go_ret
          exact ⟨ret_int (by rw [HZ.out, E.out]), HB2.out⟩
    · have k2' : ((keyB a).toList == (keyB b).toList) = false := by simpa using k2
      clear k2
      have E0 : lx (keyB a).data.toList (keyB b).data.toList = 1 := by
        have := less_no k1'
        have := same_no k2'
        omega
      have E : Hid (nat a.data.toList b.data.toList = 1) := nat_key E0 (by omega)
      clear E0
      go_wp2
      go_ret
      exact ⟨ret_int (by rw [E.out]), HB2.out⟩
end Go.Proofs.Qxb6602997a
