/-
  WALK: zzRuleKey (30).
-/
import Derived.Test.Qxb6602997aTrim
namespace Go.Proofs.Qxb6602997a
open Go.RowKit Plain

theorem Try.info5 : (Try.prog.info? 5).map (fun i => (i.zero, i.size, i.bytes)) = some (some (.int .u8 0), 1, 1) := by kernel_rfl

def bv (c : UInt8) : Value := .int .u8 (c.toNat : Int)
/-- the slice v holds the bytes L, in memory that the call made; below B nothing has turned -/
def Has (B : Nat) (w wr : World) (v : Value) (L : List UInt8) : Prop := wr.ownsRow B 5 1 v L.length (L.map bv) ∧ Below B w wr ∧ B ≤ wr.heap.size

theorem has_start (w : World) : Has w.heap.size w w (.slice none 0 0) [] := ⟨World.ownsRow_nil _ _ _ _, Below.refl _ _, Nat.le_refl _⟩
theorem has_grow {B : Nat} {w wr w1 : World} {v v' : Value} {L N : List UInt8} (h : Has B w wr v L) (o : Obj) (hown : w1.ownsRow B 5 1 v' (L.length + N.length) (L.map bv ++ N.map bv))
    (hg : (wr.alloc o).grownBy w1 v.ownBlock) : Has B w w1 v' (L ++ N) := by
  refine ⟨?_, ?_, ?_⟩
  · rw [List.length_append, List.map_append]; exact hown
  · exact (h.2.1.alloc h.2.2 o).grown hg (by have := h.2.2; simp; omega) (fun k hk => (h.1.lt k hk).1)
  · have := hg.size; have := h.2.2; simp at *; omega

theorem wpList_app {ops : Array Oper} {rest : List Oper} {o : Oper} {a : Act} {Q : Exit → Act → World → Prop} (hgd : o.guard = none) (s x : Operand)
    (ho : o.op = .call { callee := .builtin .append, args := #[s, x], argTypes := #[31, 31] }) (w wr : World) (v : Value) (L N : List UInt8) (cs : Array Value) (hcs : cs.toList = N.map bv)
    (hs : a.eval s = v) (hx : a.eval x = .slice (some ⟨wr.heap.size, 0, none⟩) N.length N.length) (hH : Has w.heap.size w wr v L) (hb : L.length + N.length ≤ 100000000)
    (h : ∀ v' w', Has w.heap.size w w' v' (L ++ N) → wpList Try.prog ops Q rest (a.put o.dst v') w') : wpList Try.prog ops Q (o :: rest) a (wr.alloc (.cells cs 5)) := by
  obtain ⟨i0, hi, hz0, hz1, hz2⟩ := info_parts Try.info5
  refine wpList_append_own _ hgd s x 31 ho w.heap.size 5 i0 (.int .u8 0) 1 1 Try.underlying31 hi hz0 hz1 hz2 rfl (by decide) v L.length (L.map bv) hs (hH.1.alloc _) ⟨wr.heap.size, 0, none⟩ N.length N.length
    (N.map bv) hx (by simp) ?_ ?_ (by unfold maxLen; omega) (by omega) (by have := hH.2.2; simp; omega) ?_
  · intro j u hj
    rw [← hcs] at hj
    have e : cs[j]? = some u := by simpa using hj
    by_cases h0 : j = 0
    · subst h0; simp [Addr.add, e]
    · simp [Addr.add, h0, e]
  · intro u hu
    obtain ⟨c, _, rfl⟩ := List.mem_map.1 hu
    rfl
  · intro v' w' hown hg _
    exact h v' w' (has_grow hH _ hown hg)
theorem cells4 (n : Nat) (b c d : Int) (hb : b = (n / 65536 % 256 : Nat)) (hc : c = (n / 256 % 256 : Nat)) (hd : d = (n % 256 : Nat)) :
    [Value.int .u8 48, .int .u8 b, .int .u8 c, .int .u8 d] = (48 :: be3 n).map bv := by
  subst hb hc hd
  simp [bv, be3]
theorem enc_of (r t : List UInt8) (h : trim r = t) (n : Nat) (hn : t.length = n) : enc r = 48 :: be3 n ++ t := by
  unfold enc; rw [h, hn]; rfl

theorem seg_skip (s : ByteArray) (p k : Nat) (hp : p < s.size) (hpk : p + 1 < k) (hz : ((s[p].toNat : Int) == 48) = true) (hk : k ≤ s.size) : trim (seg s.data.toList p k) = trim (seg s.data.toList (p + 1) k) := by
  have := eq_of_beq hz
  rw [seg_cons _ p k _ (by omega) (byte_at s p hp), trim_zero _ _ (by omega)]
  intro e
  have h := seg_length s.data.toList (p + 1) k (by rw [len_data]; exact hk)
  rw [e] at h; simp at h; omega
theorem seg_keep (s : ByteArray) (p k : Nat) (hp : p < s.size) (hpk : p < k) (hz : ((s[p].toNat : Int) == 48) = false ∨ p + 1 = k) : trim (seg s.data.toList p k) = seg s.data.toList p k := by
  rw [seg_cons _ p k _ (by omega) (byte_at s p hp)]
  refine trim_stop _ _ ?_
  rcases hz with hz | hz
  · right; have := ne_of_beq_false hz; omega
  · left; rw [hz]; exact seg_self _ _

theorem seg_snoc (s : ByteArray) (p m : Nat) (hm : m < s.size) (hp : p ≤ m) : seg s.data.toList p (m + 1) = seg s.data.toList p m ++ [s[m]] := by
  unfold seg
  have e : (s.data.toList.drop p)[m - p]? = some s[m] := by
    rw [List.getElem?_drop, show p + (m - p) = m by omega]; exact byte_at s m hm
  obtain ⟨h, h'⟩ := List.getElem?_eq_some_iff.1 e
  rw [show m + 1 - p = (m - p) + 1 by omega, List.take_succ_eq_append_getElem h, h']

theorem isDec_k (c : UInt8) (w : World) : Calls Try.prog 13 #[.int .u8 (c.toNat : Int)] w fun e w' => e = .returned (.bool (dig c)) ∧ w = w' :=
  (isDec_any c w).mono fun _ _ h => ⟨h.1, h.2.symm⟩

set_option maxRecDepth 8000 in
set_option maxHeartbeats 1000000 in
theorem key_any (s : ByteArray) (w : World) (hs : s.size ≤ 8388608) :
    Calls Try.prog 30 #[.string s] w fun e w' => ∃ v : Value, e = .returned v ∧ Has w.heap.size w w' v (key s.data.toList) := by
  go_enter Try.func30, Try.ntmps30
  go_wp2
  go_loopw [3, 4] (fun v t wr => ∃ (i : Nat) (L : List UInt8), i ≤ s.size ∧ t = .int .i64 i ∧ L ++ key (s.data.toList.drop i) = key s.data.toList ∧ Has w.heap.size w wr v L)
    (fun _ t _ => s.size - (intOf t).toNat)
  case atStart => exact ⟨0, [], Nat.zero_le _, rfl, by simp, has_start w⟩
  case round =>
    obtain ⟨i, L, hile, rfl, hL, hhas⟩ := hrel
    have HL : Hid (L ++ key (s.data.toList.drop i) = key s.data.toList) := hL
    have HH : Hid (Has w.heap.size w wr u3 L) := hhas
    have hlen : L.length ≤ 5 * s.size := by
      have := key_length s.data.toList
      rw [← hL, len_data] at this; simp at this; omega
    clear hL hhas
    by_cases hlt : i < s.size
    · by_cases hd : dig s[i] = true
      · have hx2 := rEnd_le s.data.toList i (by rw [len_data]; omega)
        have hx4 := rEnd_ge s.data.toList (i + 1)
        rw [len_data] at hx2
        rw [← rEnd_yes s.data.toList i _ (byte_at s i hlt) hd] at hx4
        obtain ⟨x, hx⟩ : ∃ x, rEnd s.data.toList i = x := ⟨_, rfl⟩
        rw [hx] at hx2 hx4
        have HX : Hid (rEnd s.data.toList i = x) := hx
        clear hx
        go_wp2_with (first | (go_at_call 13; refine (isDec_k _ _).mono ?_; rintro e w' ⟨rfl, rfl⟩))
        go_loop [4] (fun t => ∃ k : Nat, i ≤ k ∧ k ≤ s.size ∧ t = .int .i64 k ∧ rEnd s.data.toList k = x) (fun t => s.size - (intOf t).toNat)
        case atStart => exact ⟨i, Nat.le_refl _, by omega, rfl, HX.out⟩
        case round =>
          obtain ⟨k, hk1, hk2, rfl, hk3⟩ := hrel
          have HK : Hid (rEnd s.data.toList k = x) := hk3
          clear hk3
          by_cases hkd : ∃ h : k < s.size, dig s[k] = true
          · obtain ⟨hks, hkd⟩ := hkd
            go_wp2_with (first | (go_at_call 13; refine (isDec_k _ _).mono ?_; rintro e w' ⟨rfl, rfl⟩))
            go_round
            case rel => exact ⟨k + 1, by omega, by omega, by go_num, by rw [← HK.out, rEnd_yes _ _ _ (byte_at s k hks) hkd]⟩
            case measure => simp [intOf]; omega
          · have ek : k = x := by
              rw [← HK.out]
              by_cases hks : k < s.size
              · exact (rEnd_no _ _ _ (byte_at s k hks) (by simpa using fun h => hkd ⟨hks, h⟩)).symm
              · exact (rEnd_past _ _ (by rw [len_data]; omega)).symm
            have hkd' : ∀ h : k < s.size, dig s[k] = false := fun h => by simpa using fun h' => hkd ⟨h, h'⟩
            clear hkd
            subst ek
            by_cases hks : k < s.size
            all_goals
              first | have hkd2 := hkd' hks | skip
              clear hkd'
              go_wp2_with (first | (go_at_call 13; refine (isDec_k _ _).mono ?_; rintro e w' ⟨rfl, rfl⟩))
              go_loop [6] (fun t => ∃ p : Nat, i ≤ p ∧ p + 1 ≤ k ∧ t = .int .i64 p ∧ trim (seg s.data.toList p k) = trim (seg s.data.toList i k)) (fun t => s.size - (intOf t).toNat)
              case atStart => exact ⟨i, Nat.le_refl _, by omega, rfl, rfl⟩
              case round =>
                obtain ⟨p, hp1, hp2, rfl, hp3⟩ := hrel
                have HP : Hid (trim (seg s.data.toList p k) = trim (seg s.data.toList i k)) := hp3
                clear hp3
                have hps : p < s.size := by omega
                by_cases hmore : (p : Int) < (k : Int) - 1 ∧ ((s[p].toNat : Int) == 48) = true
                · obtain ⟨hpk, hz⟩ := hmore
                  go_wp2
                  go_round
                  case rel => exact ⟨p + 1, by omega, by omega, by go_num, by rw [← HP.out]; exact (seg_skip s p k hps (by omega) hz (by omega)).symm⟩
                  case measure => simp [intOf]; omega
                · have HT : Hid (trim (seg s.data.toList i k) = seg s.data.toList p k) := by
                    have e := seg_keep s p k hps (by omega) (by
                      by_cases hpk : (p : Int) < (k : Int) - 1
                      · left; simpa using fun h => hmore ⟨hpk, h⟩
                      · right; omega)
                    rw [HP.out] at e; exact e
                  have hmore' : (p : Int) < (k : Int) - 1 → ((s[p].toNat : Int) == 48) = false := fun h => by simpa using fun h' => hmore ⟨h, h'⟩
                  clear hmore
                  by_cases hpk : (p : Int) < (k : Int) - 1
                  all_goals
                    first | have hz' := hmore' hpk | skip
                    clear hmore'
                    go_wp2_with (at_builtin; refine wpList_app rfl (.tmp 55) (.tmp 64) rfl w wr u3 L (48 :: be3 (k - p)) _ (cells4 (k - p) _ _ _ (by omega) (by omega) (by omega)) rfl rfl HH.out (by simp [be3]; omega) ?_; intro v1 w1 hh1)
                    have HH1 : Hid (Has w.heap.size w w1 v1 (L ++ (48 :: be3 (k - p)))) := hh1
                    clear hh1 HH
                    go_loopw [3, 8] (fun v t wx => ∃ m : Nat, p ≤ m ∧ m ≤ k ∧ t = .int .i64 m ∧ Has w.heap.size w wx v (L ++ (48 :: be3 (k - p)) ++ seg s.data.toList p m)) (fun _ t _ => s.size - (intOf t).toNat)
                    case atStart => exact ⟨p, Nat.le_refl _, by omega, rfl, by rw [seg_self, List.append_nil]; exact HH1.out⟩
                    case round =>
                      obtain ⟨m, hm1, hm2, rfl, hhm⟩ := hrel
                      have HM : Hid (Has w.heap.size w wr u3 (L ++ (48 :: be3 (k - p)) ++ seg s.data.toList p m)) := hhm
                      clear hhm
                      have hlm : (L ++ (48 :: be3 (k - p)) ++ seg s.data.toList p m).length ≤ 60000000 := by
                        have := seg_length s.data.toList p m (by rw [len_data]; omega)
                        simp [be3, this]; omega
                      by_cases hmk : (m : Int) < k
                      · have hms : m < s.size := by omega
                        go_wp2_with (at_builtin; refine wpList_app rfl (.tmp 72) (.tmp 76) rfl w wr u3 _ [s[m]] _ rfl rfl rfl HM.out (by simp at hlm ⊢; omega) ?_; intro v2 w2 hh2)
                        go_roundw
                        case rel => exact ⟨m + 1, by omega, by omega, by go_num, by rw [seg_snoc s p m hms hm1, ← List.append_assoc]; exact hh2⟩
                        case measure => simp [intOf]; omega
                      · have em : m = k := by omega
                        have HE : Hid (enc (seg s.data.toList i k) = 48 :: be3 (k - p) ++ seg s.data.toList p k) := enc_of _ _ HT.out _ (seg_length _ _ _ (by rw [len_data]; omega))
                        have HF : Hid (Has w.heap.size w wr u3 (L ++ enc (seg s.data.toList i k))) := by
                          have := HM.out
                          rw [em, List.append_assoc, ← HE.out] at this; exact this
                        clear em hlm
                        go_wp2
                        go_roundw
                        case rel => exact ⟨k, L ++ enc (seg s.data.toList i k), by omega, rfl, by rw [← HL.out, key_at_run _ i _ (byte_at s i hlt) hd, HX.out]; simp, HF.out⟩
                        case measure => simp [intOf]; omega
      · have hd' : dig s[i] = false := by simpa using hd
        clear hd
        go_wp2_with (first | (go_at_call 13; refine (isDec_k _ _).mono ?_; rintro e w' ⟨rfl, rfl⟩) | (at_builtin; refine wpList_app rfl (.tmp 18) (.tmp 22) rfl w wr u3 L [s[i]] _ rfl rfl rfl HH.out (by simp; omega) ?_; intro v1 w1 hh1))
        go_roundw
        case rel => exact ⟨i + 1, L ++ [s[i]], by omega, by go_num, by rw [← HL.out, key_at_plain _ i _ (byte_at s i hlt) hd']; simp, hh1⟩
        case measure => simp [intOf]; omega
    · go_wp2
      go_ret
      exact ⟨_, rfl, by rw [← HL.out, List.drop_of_length_le (by rw [len_data]; omega), key_nil, List.append_nil]; exact HH.out⟩
end Go.Proofs.Qxb6602997a
