/-
  THE PLAIN MATHEMATICS OF THIS SEAT: lists of bytes; no Go in sight (but for 'Op.bytesLess', the model's order on byte lists).
-/
import Derived.Laws.Strings
namespace Go.Proofs.Qxb6602997a.Plain
open Go.Op (bytesLess)

/-- a decimal digit -/
def dig (c : UInt8) : Bool := decide (48 ≤ c.toNat) && decide (c.toNat ≤ 57)

theorem dig_iff (c : UInt8) : dig c = true ↔ 48 ≤ c.toNat ∧ c.toNat ≤ 57 := by simp [dig]
theorem dig_no (c : UInt8) : dig c = false ↔ c.toNat < 48 ∨ 57 < c.toNat := by
  rw [← Bool.not_eq_true, dig_iff]; omega

/-- how many digits the list begins with -/
def runL : List UInt8 → Nat
  | [] => 0
  | c :: t => if dig c = true then runL t + 1 else 0

theorem runL_le : ∀ l : List UInt8, runL l ≤ l.length
  | [] => by simp [runL]
  | c :: t => by
    have := runL_le t
    by_cases h : dig c = true <;> simp [runL, h]; omega

theorem runL_all : ∀ (l : List UInt8) (k : Nat) (c : UInt8), k < runL l → l[k]? = some c → dig c = true
  | [], k, c, h, e => by simp [runL] at h
  | d :: t, k, c, h, e => by
    by_cases hd : dig d = true
    · match k, h, e with
      | 0, h, e => simp at e; subst e; exact hd
      | k + 1, h, e =>
        simp [runL, hd] at h
        exact runL_all t k c h (by simpa using e)
    · simp [runL, hd] at h

theorem runL_stop : ∀ (l : List UInt8) (c : UInt8), l[runL l]? = some c → dig c = false
  | [], c, e => by simp at e
  | d :: t, c, e => by
    by_cases hd : dig d = true
    · simp [runL, hd] at e
      exact runL_stop t c e
    · simp [runL, hd] at e
      subst e; simpa using hd

theorem runL_append : ∀ (l m : List UInt8), runL (l ++ m) = if runL l < l.length then runL l else l.length + runL m
  | [], m => by simp [runL]
  | c :: t, m => by
    by_cases hc : dig c = true
    · simp only [List.cons_append, runL, hc, if_true, runL_append t m, List.length_cons]
      by_cases h : runL t < t.length
      · rw [if_pos h, if_pos (by omega)]
      · rw [if_neg h, if_neg (by omega)]; omega
    · simp [runL, hc]

/-- the end of the run of digits from place i on -/
def rEnd (l : List UInt8) (i : Nat) : Nat := i + runL (l.drop i)

theorem rEnd_ge (l : List UInt8) (i : Nat) : i ≤ rEnd l i := by unfold rEnd; omega
theorem rEnd_le (l : List UInt8) (i : Nat) (h : i ≤ l.length) : rEnd l i ≤ l.length := by
  unfold rEnd; have := runL_le (l.drop i); simp at this; omega
theorem rEnd_past (l : List UInt8) (i : Nat) (h : l.length ≤ i) : rEnd l i = i := by
  unfold rEnd; rw [List.drop_of_length_le h]; simp [runL]
theorem rEnd_all (l : List UInt8) (i k : Nat) (c : UInt8) (h1 : i ≤ k) (h2 : k < rEnd l i) (e : l[k]? = some c) : dig c = true := by
  refine runL_all (l.drop i) (k - i) c (by unfold rEnd at h2; omega) ?_
  rw [List.getElem?_drop, show i + (k - i) = k by omega]; exact e
theorem rEnd_stop (l : List UInt8) (i : Nat) (c : UInt8) (e : l[rEnd l i]? = some c) : dig c = false := by
  refine runL_stop (l.drop i) c ?_
  rw [List.getElem?_drop]; exact e
theorem drop_cons (l : List UInt8) (i : Nat) (c : UInt8) (e : l[i]? = some c) : l.drop i = c :: l.drop (i + 1) := by
  obtain ⟨h, rfl⟩ := List.getElem?_eq_some_iff.1 e
  exact List.drop_eq_getElem_cons h
theorem rEnd_yes (l : List UInt8) (i : Nat) (c : UInt8) (e : l[i]? = some c) (hc : dig c = true) : rEnd l i = rEnd l (i + 1) := by
  unfold rEnd; rw [drop_cons l i c e]; simp [runL, hc]; omega
theorem rEnd_no (l : List UInt8) (i : Nat) (c : UInt8) (e : l[i]? = some c) (hc : dig c = false) : rEnd l i = i := by
  unfold rEnd; rw [drop_cons l i c e]; simp [runL, hc]

theorem rEnd_cat_past (s t : List UInt8) (i : Nat) (h : s.length ≤ i) : rEnd (s ++ t) i = s.length + rEnd t (i - s.length) := by
  unfold rEnd; rw [List.drop_append, List.drop_of_length_le h]; simp; omega
theorem rEnd_cat_in (s t : List UInt8) (i : Nat) (h : i ≤ s.length) (hr : rEnd s i < s.length) : rEnd (s ++ t) i = rEnd s i := by
  unfold rEnd at *
  rw [List.drop_append_of_le_length h, runL_append, if_pos (by simp; omega)]
theorem rEnd_cat_on (s t : List UInt8) (i : Nat) (h : i ≤ s.length) (hr : ¬ rEnd s i < s.length) : rEnd (s ++ t) i = s.length + rEnd t 0 := by
  unfold rEnd at *
  have h1 := runL_le (s.drop i)
  rw [List.drop_append_of_le_length h, runL_append, if_neg (by simp at h1 ⊢; omega)]
  simp; omega

/-! ### the order of byte lists -/
def sgn (n : Int) : Int := if n < 0 then -1 else if 0 < n then 1 else 0

def lx : List UInt8 → List UInt8 → Int
  | [], [] => 0
  | [], _ :: _ => -1
  | _ :: _, [] => 1
  | a :: x, b :: y => if a.toNat < b.toNat then -1 else if b.toNat < a.toNat then 1 else lx x y

theorem lx_self : ∀ l, lx l l = 0
  | [] => rfl
  | a :: x => by simp [lx, lx_self x]
theorem lx_three : ∀ x y, lx x y = -1 ∨ lx x y = 0 ∨ lx x y = 1
  | [], [] => by simp [lx]
  | [], _ :: _ => by simp [lx]
  | _ :: _, [] => by simp [lx]
  | a :: x, b :: y => by
    have := lx_three x y
    unfold lx; split
    · simp
    · split
      · simp
      · exact this
theorem lx_neg : ∀ x y, lx y x = - lx x y
  | [], [] => by simp [lx]
  | [], _ :: _ => by simp [lx]
  | _ :: _, [] => by simp [lx]
  | a :: x, b :: y => by
    have := lx_neg x y
    unfold lx
    by_cases h1 : a.toNat < b.toNat
    · simp [h1, show ¬ b.toNat < a.toNat by omega]
    · by_cases h2 : b.toNat < a.toNat
      · simp [h1, h2]
      · simp [h1, h2, this]
theorem lx_zero : ∀ x y, lx x y = 0 ↔ x = y
  | [], [] => by simp [lx]
  | [], _ :: _ => by simp [lx]
  | _ :: _, [] => by simp [lx]
  | a :: x, b :: y => by
    have := lx_zero x y
    unfold lx
    by_cases h1 : a.toNat < b.toNat
    · simp [h1]; intro e; subst e; omega
    · by_cases h2 : b.toNat < a.toNat
      · simp [h1, h2]; intro e; subst e; omega
      · have : a = b := UInt8.toNat_inj.1 (by omega)
        subst this; simp [h1]; assumption
theorem less_iff : ∀ x y, bytesLess x y = true ↔ lx x y = -1
  | [], [] => by simp [lx, bytesLess]
  | [], _ :: _ => by simp [lx, bytesLess]
  | _ :: _, [] => by simp [lx, bytesLess]
  | a :: x, b :: y => by
    have := less_iff x y
    unfold lx bytesLess
    by_cases h1 : a.toNat < b.toNat
    · have h1' : a < b := UInt8.lt_iff_toNat_lt.2 h1
      simp [h1, h1']
    · have h1' : ¬ a < b := fun h => h1 (UInt8.lt_iff_toNat_lt.1 h)
      by_cases h2 : b.toNat < a.toNat
      · have hne : a ≠ b := fun e => by subst e; omega
        simp [h1, h1', h2, hne]
      · have e : a = b := UInt8.toNat_inj.1 (by omega)
        subst e; simp [h1]; exact this
theorem lx_append : ∀ p x y, lx (p ++ x) (p ++ y) = lx x y
  | [], x, y => rfl
  | a :: p, x, y => by simp [lx, lx_append p x y]
theorem lx_same : ∀ (p q u v : List UInt8), p.length = q.length → lx p q ≠ 0 → lx (p ++ u) (q ++ v) = lx p q
  | [], [], u, v, _, h => by simp [lx] at h
  | [], _ :: _, u, v, h, _ => by simp at h
  | _ :: _, [], u, v, h, _ => by simp at h
  | a :: p, b :: q, u, v, h, hn => by
    have ih := lx_same p q u v (by simpa using h)
    unfold lx at hn
    simp only [List.cons_append, lx]
    by_cases h1 : a.toNat < b.toNat
    · simp [h1]
    · by_cases h2 : b.toNat < a.toNat
      · simp [h1, h2]
      · simp [h1, h2] at hn ⊢; exact ih hn

theorem sgn_lx (x y : List UInt8) : sgn (lx x y) = lx x y := by
  rcases lx_three x y with h | h | h <;> rw [h] <;> rfl

/-! ### numbers: the longer is the greater; else by bytes -/
def cmpN (x y : List UInt8) : Int := if x.length = y.length then lx x y else (x.length : Int) - y.length

theorem cmpN_neg (x y : List UInt8) : cmpN y x = - cmpN x y := by
  unfold cmpN
  by_cases h : x.length = y.length
  · rw [if_pos h, if_pos h.symm, lx_neg]
  · rw [if_neg h, if_neg (fun e => h e.symm)]; omega
theorem cmpN_zero (x y : List UInt8) : cmpN x y = 0 ↔ x = y := by
  unfold cmpN
  by_cases h : x.length = y.length
  · rw [if_pos h, lx_zero]
  · rw [if_neg h]
    exact ⟨fun e => absurd (by omega) h, fun e => absurd (by rw [e]) h⟩
theorem cmpN_bd (x y : List UInt8) : cmpN x y ≤ 1 ∧ -1 ≤ cmpN x y ∨ cmpN x y = (x.length : Int) - y.length := by
  unfold cmpN
  split
  · have := lx_three x y; omega
  · exact Or.inr rfl
theorem sgn_neg (n : Int) : sgn (-n) = - sgn n := by
  unfold sgn
  by_cases h1 : n < 0
  · rw [if_neg (by omega), if_pos (by omega), if_pos h1]; rfl
  · by_cases h2 : 0 < n
    · simp [h1, h2]
    · simp [h1, h2]
theorem sgn_zero (n : Int) : sgn n = 0 ↔ n = 0 := by
  unfold sgn; split
  · simp; omega
  · split <;> simp <;> omega

/-! ### schoolbook subtraction, digit by digit from the last -/
/-- the k-th digit from the end, 0 beyond the number -/
def dgt (l : List UInt8) (k : Nat) : Int := if k < l.length then ((l.getD (l.length - 1 - k) 48).toNat : Int) - 48 else 0

/-- the sign of the difference of the last k digits -/
def sub (x y : List UInt8) : Nat → Int
  | 0 => 0
  | k + 1 => if dgt x k < dgt y k then -1 else if dgt y k < dgt x k then 1 else sub x y k

theorem sub_three (x y : List UInt8) : ∀ k, sub x y k = -1 ∨ sub x y k = 0 ∨ sub x y k = 1
  | 0 => by simp [sub]
  | k + 1 => by
    have := sub_three x y k
    unfold sub; split
    · simp
    · split
      · simp
      · exact this

def bor (x y : List UInt8) (k : Nat) : Int := if sub x y k = -1 then 1 else 0
def nz (x y : List UInt8) (k : Nat) : Bool := decide (sub x y k ≠ 0)

/-- all digits, not empty, no leading zero but for the number 0 -/
def canon (l : List UInt8) : Bool := !l.isEmpty && l.all dig && (decide (l.length = 1) || decide (l.head? ≠ some 48))

theorem dgt_drop (x : List UInt8) (k : Nat) (h : k < x.length) : ∃ c : UInt8, x.drop (x.length - (k + 1)) = c :: x.drop (x.length - k) ∧ dgt x k = (c.toNat : Int) - 48 := by
  have hlt : x.length - 1 - k < x.length := by omega
  refine ⟨x[x.length - 1 - k], ?_, ?_⟩
  · rw [show x.length - (k + 1) = x.length - 1 - k by omega, List.drop_eq_getElem_cons hlt, show x.length - 1 - k + 1 = x.length - k by omega]
  · unfold dgt; rw [if_pos h, List.getD_eq_getElem?_getD, List.getElem?_eq_getElem hlt]; rfl

theorem sub_lx (x y : List UInt8) (h : x.length = y.length) : ∀ k, k ≤ x.length → sub x y k = lx (x.drop (x.length - k)) (y.drop (y.length - k))
  | 0, _ => by simp [sub, lx]
  | k + 1, hk => by
    obtain ⟨c, hc, dc⟩ := dgt_drop x k (by omega)
    obtain ⟨d, hd, dd⟩ := dgt_drop y k (by omega)
    rw [hc, hd]
    unfold sub lx
    rw [dc, dd, sub_lx x y h k (by omega)]
    by_cases h1 : c.toNat < d.toNat
    · rw [if_pos h1, if_pos (by omega)]
    · rw [if_neg h1, if_neg (by omega)]
      by_cases h2 : d.toNat < c.toNat
      · rw [if_pos h2, if_pos (by omega)]
      · rw [if_neg h2, if_neg (by omega)]

theorem canon_pos (x : List UInt8) (h : canon x = true) : 0 < x.length := by
  cases x with
  | nil => simp [canon] at h
  | cons c t => simp

theorem dgt_range (x : List UInt8) (h : canon x = true) (k : Nat) : 0 ≤ dgt x k ∧ dgt x k ≤ 9 := by
  unfold dgt
  by_cases hk : k < x.length
  · rw [if_pos hk]
    have hlt : x.length - 1 - k < x.length := by omega
    have hd : dig (x.getD (x.length - 1 - k) 48) = true := by
      rw [List.getD_eq_getElem?_getD, List.getElem?_eq_getElem hlt]
      have : x.all dig = true := by
        unfold canon at h; simp only [Bool.and_eq_true] at h; exact h.1.2
      exact List.all_eq_true.1 this _ (List.getElem_mem hlt)
    have := (dig_iff _).1 hd
    omega
  · rw [if_neg hk]; omega

theorem dgt_top (x : List UInt8) (h : canon x = true) (h2 : 1 < x.length) : 0 < dgt x (x.length - 1) := by
  have hr := dgt_range x h (x.length - 1)
  cases x with
  | nil => simp at h2
  | cons c t =>
    simp at h2
    have hc : c ≠ 48 := by
      intro e; subst e
      simp [canon] at h
      have := h.2; subst this; simp at h2
    have hn : c.toNat ≠ 48 := fun e => hc (UInt8.toNat_inj.1 e)
    unfold dgt at *
    simp at hr ⊢
    omega

theorem sub_law (x y : List UInt8) (hx : canon x = true) (hy : canon y = true) : sub x y (max x.length y.length) = sgn (cmpN x y) := by
  have px := canon_pos x hx
  have py := canon_pos y hy
  unfold cmpN
  by_cases h : x.length = y.length
  · rw [if_pos h, ← h, Nat.max_self, sub_lx x y h _ (Nat.le_refl _), sgn_lx, Nat.sub_self, ← h, Nat.sub_self]; rfl
  · rw [if_neg h]
    by_cases hl : x.length < y.length
    · rw [Nat.max_eq_right (by omega), show y.length = (y.length - 1) + 1 by omega]
      have ht := dgt_top y hy (by omega)
      have hz : dgt x (y.length - 1) = 0 := by unfold dgt; rw [if_neg (by omega)]
      unfold sub; rw [hz, if_pos ht]; unfold sgn; rw [if_pos (by omega)]
    · rw [Nat.max_eq_left (by omega)]
      have ht := dgt_top x hx (by omega)
      have hz : dgt y (x.length - 1) = 0 := by unfold dgt; rw [if_neg (by omega)]
      rw [show x.length = (x.length - 1) + 1 by omega]
      unfold sub; rw [hz, if_neg (by omega), if_pos ht]; unfold sgn; rw [if_neg (by omega), if_pos (by omega)]

/-! ### keys -/
/-- leading zeros struck, one digit kept -/
def trim : List UInt8 → List UInt8
  | [] => []
  | [c] => [c]
  | c :: d :: t => if c.toNat = 48 then trim (d :: t) else c :: d :: t

theorem trim_le : ∀ l, (trim l).length ≤ l.length
  | [] => by simp [trim]
  | [c] => by simp [trim]
  | c :: d :: t => by
    have := trim_le (d :: t)
    unfold trim; split
    · simp at this ⊢; omega
    · simp
theorem trim_zero (c : UInt8) (t : List UInt8) (hc : c.toNat = 48) (ht : t ≠ []) : trim (c :: t) = trim t := by
  cases t with
  | nil => simp at ht
  | cons d t => simp [trim, hc]
theorem trim_stop (c : UInt8) (t : List UInt8) (h : t = [] ∨ c.toNat ≠ 48) : trim (c :: t) = c :: t := by
  cases t with
  | nil => simp [trim]
  | cons d t => simp at h; simp [trim, h]
theorem trim_pos (c : UInt8) : ∀ t : List UInt8, 0 < (trim (c :: t)).length
  | [] => by simp [trim]
  | d :: t => by
    unfold trim; split
    · exact trim_pos d t
    · simp

def be3 (n : Nat) : List UInt8 := [UInt8.ofNat (n / 65536), UInt8.ofNat (n / 256), UInt8.ofNat n]
def enc (r : List UInt8) : List UInt8 := 48 :: (be3 (trim r).length ++ trim r)
def flush (r : List UInt8) : List UInt8 := match r with
  | [] => []
  | c :: t => enc (c :: t)
def keyS : List UInt8 → List UInt8 → List UInt8
  | [], run => flush run
  | c :: t, run => if dig c = true then keyS t (run ++ [c]) else flush run ++ c :: keyS t []
/-- the natural key -/
def key (l : List UInt8) : List UInt8 := keyS l []

theorem key_nil : key [] = [] := rfl
theorem key_plain (c : UInt8) (t : List UInt8) (h : dig c = false) : key (c :: t) = c :: key t := by
  simp [key, keyS, h, flush]
theorem keyS_run : ∀ (l : List UInt8) (c : UInt8) (r : List UInt8), keyS l (c :: r) = enc (c :: r ++ l.take (runL l)) ++ key (l.drop (runL l))
  | [], c, r => by simp [keyS, flush, runL, key]
  | d :: t, c, r => by
    by_cases hd : dig d = true
    · have ih := keyS_run t c (r ++ [d])
      simp [keyS, runL, hd] at ih ⊢; exact ih
    · simp [keyS, runL, hd, flush, key]
theorem key_run (c : UInt8) (t : List UInt8) (h : dig c = true) : key (c :: t) = enc ((c :: t).take (runL (c :: t))) ++ key ((c :: t).drop (runL (c :: t))) := by
  have := keyS_run t c []
  simp [key, keyS, runL, h] at this ⊢; exact this

/-- bytes i .. j - 1 -/
def seg (l : List UInt8) (i j : Nat) : List UInt8 := (l.drop i).take (j - i)
theorem seg_cons (l : List UInt8) (i j : Nat) (c : UInt8) (h : i < j) (e : l[i]? = some c) : seg l i j = c :: seg l (i + 1) j := by
  unfold seg; rw [drop_cons l i c e, show j - i = (j - (i + 1)) + 1 by omega]; rfl
theorem seg_length (l : List UInt8) (i j : Nat) (h : j ≤ l.length) : (seg l i j).length = j - i := by
  unfold seg; simp; omega
theorem seg_self (l : List UInt8) (i : Nat) : seg l i i = [] := by simp [seg]

theorem key_at_plain (l : List UInt8) (i : Nat) (c : UInt8) (e : l[i]? = some c) (hc : dig c = false) : key (l.drop i) = c :: key (l.drop (i + 1)) := by
  rw [drop_cons l i c e, key_plain _ _ hc]
theorem key_at_run (l : List UInt8) (i : Nat) (c : UInt8) (e : l[i]? = some c) (hc : dig c = true) : key (l.drop i) = enc (seg l i (rEnd l i)) ++ key (l.drop (rEnd l i)) := by
  have h := key_run c (l.drop (i + 1)) hc
  rw [← drop_cons l i c e, List.drop_drop] at h
  unfold seg rEnd
  rw [h, show i + runL (l.drop i) - i = runL (l.drop i) by omega]
theorem key_le : ∀ (n : Nat) (l : List UInt8), l.length ≤ n → (key l).length ≤ 5 * l.length
  | 0, l, h => by
    have : l = [] := List.length_eq_zero_iff.1 (by omega)
    subst this; simp [key_nil]
  | n + 1, [], h => by simp [key_nil]
  | n + 1, c :: t, h => by
    by_cases hc : dig c = true
    · rw [key_run c t hc]
      have ih := key_le n ((c :: t).drop (runL (c :: t))) (by simp [runL, hc] at h ⊢; omega)
      have h1 := trim_le ((c :: t).take (runL (c :: t)))
      have h2 := runL_le (c :: t)
      have h3 : 1 ≤ runL (c :: t) := by simp [runL, hc]
      simp only [List.length_append, enc, List.length_cons, be3, List.length_take, List.length_drop, List.length_nil] at *
      omega
    · rw [key_plain c t (by simpa using hc)]
      have ih := key_le n t (by simp at h; omega)
      simp; omega
theorem key_length (l : List UInt8) : (key l).length ≤ 5 * l.length := key_le l.length l (Nat.le_refl _)

theorem be3_lx (n m : Nat) (hn : n < 16777216) (hm : m < 16777216) (u v : List UInt8) (h : n ≠ m) : lx (be3 n ++ u) (be3 m ++ v) = sgn ((n : Int) - m) := by
  simp only [be3, List.cons_append, List.nil_append, lx, UInt8.toNat_ofNat']
  unfold sgn
  by_cases a : n < m
  · rw [if_pos (by omega : (n : Int) - m < 0)]
    by_cases b1 : n / 65536 % 2 ^ 8 < m / 65536 % 2 ^ 8
    · rw [if_pos b1]
    · rw [if_neg b1, if_neg (by omega)]
      by_cases b2 : n / 256 % 2 ^ 8 < m / 256 % 2 ^ 8
      · rw [if_pos b2]
      · rw [if_neg b2, if_neg (by omega), if_pos (by omega)]
  · rw [if_neg (by omega : ¬ (n : Int) - m < 0), if_pos (by omega : (0 : Int) < (n : Int) - m)]
    rw [if_neg (by omega)]
    by_cases b1 : m / 65536 % 2 ^ 8 < n / 65536 % 2 ^ 8
    · rw [if_pos b1]
    · rw [if_neg b1, if_neg (by omega)]
      by_cases b2 : m / 256 % 2 ^ 8 < n / 256 % 2 ^ 8
      · rw [if_pos b2]
      · rw [if_neg b2, if_neg (by omega), if_pos (by omega)]

theorem enc_lx (r q u v : List UInt8) (hr : r.length < 16777216) (hq : q.length < 16777216) (h : cmpN (trim r) (trim q) ≠ 0) :
    lx (enc r ++ u) (enc q ++ v) = sgn (cmpN (trim r) (trim q)) := by
  have h1 := trim_le r
  have h2 := trim_le q
  unfold cmpN at *
  have e : lx (enc r ++ u) (enc q ++ v) = lx (be3 (trim r).length ++ (trim r ++ u)) (be3 (trim q).length ++ (trim q ++ v)) := by
    simp [enc, lx]
  rw [e]
  by_cases hl : (trim r).length = (trim q).length
  · rw [if_pos hl] at h ⊢
    rw [hl, lx_append, lx_same _ _ _ _ hl h, sgn_lx]
  · rw [if_neg hl]
    exact be3_lx _ _ (by omega) (by omega) _ _ hl
theorem enc_same (r q : List UInt8) (h : cmpN (trim r) (trim q) = 0) : enc r = enc q := by
  have := (cmpN_zero _ _).1 h
  unfold enc; rw [this]

/-- the natural order: by keys, ties by bytes -/
def nat (a b : List UInt8) : Int := if lx (key a) (key b) = 0 then lx a b else lx (key a) (key b)

theorem nat_neg (a b : List UInt8) : nat b a = - nat a b := by
  unfold nat; rw [lx_neg (key a) (key b), lx_neg a b]
  by_cases h : lx (key a) (key b) = 0 <;> simp [h]
theorem nat_zero (a b : List UInt8) : nat a b = 0 ↔ a = b := by
  unfold nat
  by_cases h : lx (key a) (key b) = 0
  · rw [if_pos h, lx_zero]
  · rw [if_neg h]
    exact ⟨fun e => absurd e h, fun e => absurd (by rw [e]; exact lx_self _) h⟩

/-- two keys that share what lies ahead of places i and j -/
def Even (a b : List UInt8) (i j : Nat) : Prop := ∃ p, key a = p ++ key (a.drop i) ∧ key b = p ++ key (b.drop j)
theorem even_start (a b : List UInt8) : Even a b 0 0 := ⟨[], by simp, by simp⟩
theorem even_lx {a b : List UInt8} {i j : Nat} (h : Even a b i j) : lx (key a) (key b) = lx (key (a.drop i)) (key (b.drop j)) := by
  obtain ⟨p, h1, h2⟩ := h
  rw [h1, h2, lx_append]
theorem even_plain {a b : List UInt8} {i j : Nat} (h : Even a b i j) (c : UInt8) (ea : a[i]? = some c) (eb : b[j]? = some c) (hc : dig c = false) : Even a b (i + 1) (j + 1) := by
  obtain ⟨p, h1, h2⟩ := h
  refine ⟨p ++ [c], ?_, ?_⟩
  · rw [h1, key_at_plain a i c ea hc]; simp
  · rw [h2, key_at_plain b j c eb hc]; simp
theorem even_run {a b : List UInt8} {i j : Nat} (h : Even a b i j) (c d : UInt8) (ea : a[i]? = some c) (eb : b[j]? = some d) (hc : dig c = true) (hd : dig d = true)
    (hz : cmpN (trim (seg a i (rEnd a i))) (trim (seg b j (rEnd b j))) = 0) : Even a b (rEnd a i) (rEnd b j) := by
  obtain ⟨p, h1, h2⟩ := h
  refine ⟨p ++ enc (seg a i (rEnd a i)), ?_, ?_⟩
  · rw [h1, key_at_run a i c ea hc]; simp
  · rw [h2, key_at_run b j d eb hd, enc_same _ _ hz]; simp
theorem nat_of_lx {a b : List UInt8} (h : lx (key a) (key b) ≠ 0) : nat a b = lx (key a) (key b) := by unfold nat; rw [if_neg h]
theorem end_run {a b : List UInt8} {i j : Nat} (h : Even a b i j) (c d : UInt8) (ea : a[i]? = some c) (eb : b[j]? = some d) (hc : dig c = true) (hd : dig d = true)
    (hl : a.length < 16777216) (hm : b.length < 16777216)
    (hz : cmpN (trim (seg a i (rEnd a i))) (trim (seg b j (rEnd b j))) ≠ 0) : nat a b = sgn (cmpN (trim (seg a i (rEnd a i))) (trim (seg b j (rEnd b j)))) := by
  have e : lx (key a) (key b) = sgn (cmpN (trim (seg a i (rEnd a i))) (trim (seg b j (rEnd b j)))) := by
    rw [even_lx h, key_at_run a i c ea hc, key_at_run b j d eb hd]
    exact enc_lx _ _ _ _ (by unfold seg; simp; omega) (by unfold seg; simp; omega) hz
  rw [nat_of_lx (by rw [e]; exact fun x => hz ((sgn_zero _).1 x)), e]
theorem head_key (l : List UInt8) (i : Nat) (c : UInt8) (e : l[i]? = some c) : ∃ (h : UInt8) (t : List UInt8), key (l.drop i) = h :: t ∧ (dig c = true → h.toNat = 48) ∧ (dig c = false → h = c) := by
  by_cases hc : dig c = true
  · exact ⟨48, _, by rw [key_at_run l i c e hc]; rfl, fun _ => rfl, fun h => by rw [hc] at h; simp at h⟩
  · have hc' : dig c = false := by simpa using hc
    exact ⟨c, _, key_at_plain l i c e hc', fun h => absurd h hc, fun _ => rfl⟩
theorem end_bytes {a b : List UInt8} {i j : Nat} (h : Even a b i j) (c d : UInt8) (ea : a[i]? = some c) (eb : b[j]? = some d) (hb : ¬ (dig c = true ∧ dig d = true))
    (hne : c.toNat ≠ d.toNat) : nat a b = sgn ((c.toNat : Int) - d.toNat) := by
  obtain ⟨x, t, e1, p1, p2⟩ := head_key a i c ea
  obtain ⟨y, u, e2, q1, q2⟩ := head_key b j d eb
  have key1 : (x.toNat < y.toNat ∧ c.toNat < d.toNat) ∨ (y.toNat < x.toNat ∧ d.toNat < c.toNat) := by
    by_cases hc : dig c = true
    · by_cases hd : dig d = true
      · exact absurd ⟨hc, hd⟩ hb
      · have := q2 (by simpa using hd)
        subst this
        have h1 := p1 hc
        have h2 := (dig_iff _).1 hc
        have h3 := (dig_no _).1 (by simpa using hd)
        omega
    · have := p2 (by simpa using hc)
      subst this
      have h3 := (dig_no _).1 (by simpa using hc)
      by_cases hd : dig d = true
      · have h1 := q1 hd
        have h2 := (dig_iff _).1 hd
        omega
      · have := q2 (by simpa using hd)
        subst this
        omega
  have e : lx (key a) (key b) = sgn ((c.toNat : Int) - d.toNat) := by
    rw [even_lx h, e1, e2]; unfold lx sgn
    rcases key1 with ⟨k1, k2⟩ | ⟨k1, k2⟩
    · rw [if_pos k1, if_pos (by omega)]
    · rw [if_neg (by omega), if_pos k1, if_neg (by omega), if_pos (by omega)]
  rw [nat_of_lx (by rw [e]; intro z; have := (sgn_zero _).1 z; omega), e]
theorem end_len {a b : List UInt8} {i j : Nat} (h : Even a b i j) (hi : i ≤ a.length) (hj : j ≤ b.length) (hx : ¬ (i < a.length ∧ j < b.length))
    (hne : ((a.length : Int) - i) - ((b.length : Int) - j) ≠ 0) : nat a b = sgn (((a.length : Int) - i) - ((b.length : Int) - j)) := by
  have e : lx (key a) (key b) = sgn (((a.length : Int) - i) - ((b.length : Int) - j)) := by
    rw [even_lx h]
    by_cases hlt : i < a.length
    · obtain ⟨x, t, e1, _, _⟩ := head_key a i a[i] (List.getElem?_eq_getElem hlt)
      rw [e1, List.drop_of_length_le (by omega : b.length ≤ j), key_nil]
      unfold sgn lx; rw [if_neg (by omega), if_pos (by omega)]
    · obtain ⟨x, t, e1, _, _⟩ := head_key b j (b[j]'(by omega)) (List.getElem?_eq_getElem (by omega))
      rw [e1, List.drop_of_length_le (by omega : a.length ≤ i), key_nil]
      unfold sgn lx; rw [if_pos (by omega)]
  rw [nat_of_lx (by rw [e]; exact fun x => hne ((sgn_zero _).1 x)), e]
theorem end_tie {a b : List UInt8} {i j : Nat} (h : Even a b i j) (_hi : i ≤ a.length) (_hj : j ≤ b.length) (hx : ¬ (i < a.length ∧ j < b.length))
    (hz : ((a.length : Int) - i) - ((b.length : Int) - j) = 0) : nat a b = lx a b := by
  have e : lx (key a) (key b) = 0 := by
    rw [even_lx h, List.drop_of_length_le (by omega : b.length ≤ j), List.drop_of_length_le (by omega : a.length ≤ i)]; rfl
  unfold nat; rw [if_pos e]
end Go.Proofs.Qxb6602997a.Plain
