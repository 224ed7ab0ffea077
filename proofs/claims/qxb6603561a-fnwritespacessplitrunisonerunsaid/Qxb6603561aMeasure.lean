/-
  WALKS: ZZnewListingMeasure (6), ZZwriteSpaces (7) over (*listingMeasure).writeSpaces (12), ZZlistingMeasureFields (8).
-/
import Derived.Test.Qxb6603561aRows
import Derived.WalkKit
import Derived.WalkLawsBesides
import Derived.Outline
import Derived.Deep.QuietTactic
import Derived.BigQuiet
namespace Go.Proofs.Qxb6603561a
open Go.RowKit

theorem ret_bool {a b : Bool} (h : a = b) : Ending.returned (.bool a) = .returned (.bool b) := by rw [h]

/-- in block B lies a measure: the current run, the longest run, the length; its cells may be written -/
structure Mes (w : World) (B : Nat) (c l n : Int) : Prop where
  c0 : w.cell? ⟨B, 0, none⟩ = some (.int .i64 c)
  c1 : w.cell? ⟨B, 1, none⟩ = some (.int .i64 l)
  c2 : w.cell? ⟨B, 2, none⟩ = some (.int .i64 n)
  f0 : w.frozen? ⟨B, 0, none⟩ = false
  f2 : w.frozen? ⟨B, 2, none⟩ = false

theorem new_any (c l n : Int) (w : World) :
    Calls Try.prog 6 #[.int .i64 c, .int .i64 l, .int .i64 n] w fun e w' => e = .returned (.pointer (some ⟨w.heap.size, 0, none⟩)) ∧ w' = w.alloc (.cells #[.int .i64 c, .int .i64 l, .int .i64 n] 39) := by
  go_enter Try.func6, Try.ntmps6
  go_wp2
  go_ret
  exact ⟨rfl, rfl⟩

set_option maxHeartbeats 400000 in
theorem fields_any (B : Nat) (c l n : Int) (w : World) (h : Mes w B c l n) :
    Calls Try.prog 8 #[.pointer (some ⟨B, 0, none⟩)] w fun e w' => e = .returned (.tuple #[.int .i64 c, .int .i64 l, .int .i64 n]) ∧ ∃ q, w' = w.drewN q := by
  obtain ⟨h0, h1, h2, _, _⟩ := h
  go_enter Try.func8, Try.ntmps8
  go_wp2
  go_quiet (fail)
  go_wp2
  go_ret3
  exact ⟨rfl, _, rfl⟩

theorem mes_cur {w : World} {B : Nat} {c l n : Int} (h : Mes w B c l n) (x : Int) : Mes (w.setCell ⟨B, 0, none⟩ (.int .i64 x)) B x l n :=
  ⟨World.cell?_setCell_same _ _ _ h.c0, by rw [World.cell?_setCell_other _ _ _ _ (by simp)]; exact h.c1, by rw [World.cell?_setCell_other _ _ _ _ (by simp)]; exact h.c2,
    by rw [World.frozen?_setCell]; exact h.f0, by rw [World.frozen?_setCell]; exact h.f2⟩
theorem mes_len {w : World} {B : Nat} {c l n : Int} (h : Mes w B c l n) (x : Int) : Mes (w.setCell ⟨B, 2, none⟩ (.int .i64 x)) B c l x :=
  ⟨by rw [World.cell?_setCell_other _ _ _ _ (by simp)]; exact h.c0, by rw [World.cell?_setCell_other _ _ _ _ (by simp)]; exact h.c1, World.cell?_setCell_same _ _ _ h.c2,
    by rw [World.frozen?_setCell]; exact h.f0, by rw [World.frozen?_setCell]; exact h.f2⟩
theorem mes_new (w : World) (c l n : Int) : Mes (w.alloc (.cells #[.int .i64 c, .int .i64 l, .int .i64 n] 39)) w.heap.size c l n := by
  refine ⟨?_, ?_, ?_, ?_, ?_⟩ <;> simp [go_sem]
/-- the current run behind k spaces -/
def cur (c k : Int) : Int := if 0 < k then 0 else c

set_option maxHeartbeats 400000 in
theorem spaces_any (B : Nat) (c l n k : Int) (w : World) (h : Mes w B c l n) :
    Calls Try.prog 12 #[.pointer (some ⟨B, 0, none⟩), .int .i64 k] w fun e w' => e = .returned (.tuple #[]) ∧ Mes w' B (cur c k) l (wrap64 (n + k)) ∧ Below B w w' := by
  have H : Hid (Mes w B c l n) := h
  obtain ⟨h0, h1, h2, f0, f2⟩ := h
  by_cases hk : 0 < k
  · have HC : Hid (cur c k = 0) := if_pos hk
    go_enter Try.func12, Try.ntmps12
    go_wp2
    go_end0
    exact ⟨rfl, by rw [HC.out]; exact mes_len (mes_cur H.out 0) _, ((Below.refl B w).setCell (p := ⟨B, 0, none⟩) (Nat.le_refl B) _).setCell (p := ⟨B, 2, none⟩) (Nat.le_refl B) _⟩
  · have HC : Hid (cur c k = c) := if_neg hk
    go_enter Try.func12, Try.ntmps12
    go_wp2
    go_end0
    exact ⟨rfl, by rw [HC.out]; exact mes_len H.out _, (Below.refl B w).setCell (p := ⟨B, 2, none⟩) (Nat.le_refl B) _⟩

theorem write_any (B : Nat) (c l n k : Int) (w : World) (h : Mes w B c l n) :
    Calls Try.prog 7 #[.pointer (some ⟨B, 0, none⟩), .int .i64 k] w fun e w' => e = .returned (.tuple #[]) ∧ Mes w' B (cur c k) l (wrap64 (n + k)) ∧ Below B w w' := by
  go_enter Try.func7, Try.ntmps7
  go_wp2_with (go_at_call 12; refine (spaces_any _ _ _ _ _ _ h).mono ?_; rintro e w' ⟨rfl, hm, hb⟩)
  go_end0
  exact ⟨rfl, hm, hb⟩
end Go.Proofs.Qxb6603561a
