/- Plain functions: EAN and UPC. No program in sight. -/
import Derived.Test.YtpgddedhhjbgoaaDoorPlain
namespace Go.Proofs.YtpgddedhhjbgoaaDoor
open Go.RowKit

def eanW : List (List Nat) := [[3, 2, 1, 1], [2, 2, 2, 1], [2, 1, 2, 2], [1, 4, 1, 1], [1, 1, 3, 2], [1, 2, 3, 1], [1, 1, 1, 4], [1, 3, 1, 2], [1, 2, 1, 3], [3, 1, 1, 2]]
/-- The widths of a digit. -/
def eanEl (c : UInt8) : List Nat := nthL eanW (c.toNat - 48)
theorem eanW_facts : ∀ d, d < 10 → (nthL eanW d).length = 4 ∧ (nthL eanW d).sum = 7 ∧ ∀ x ∈ nthL eanW d, x ≤ 4 := by decide
theorem eanEl_facts {c : UInt8} (h : isDig c) : (eanEl c).length = 4 ∧ (eanEl c).sum = 7 ∧ ∀ x ∈ eanEl c, x ≤ 4 := eanW_facts _ (by unfold isDig at h; omega)
/-- The modules of a digit by its set. -/
def dmods (set c : UInt8) : List Bool := if set = 66 then barsFrom false (eanEl c).reverse else if set = 67 then barsFrom true (eanEl c) else barsFrom false (eanEl c)
theorem sum_rev (l : List Nat) : l.reverse.sum = l.sum := by
  induction l with
  | nil => rfl
  | cons x xs ih => rw [List.reverse_cons, List.sum_append, ih, List.sum_cons]; simp; omega
theorem dmods_length {set c : UInt8} (h : isDig c) : (dmods set c).length = 7 := by
  have := (eanEl_facts h).2.1
  unfold dmods
  split
  · rw [barsFrom_length, sum_rev]; exact this
  · split <;> (rw [barsFrom_length]; exact this)
/-- The modules of so many digits, by sets; by the set C. -/
def leftM (ds sets : List UInt8) (n : Nat) : List Bool := (List.range n).flatMap fun k => dmods (nthU sets k) (nthU ds k)
def rightM (ds : List UInt8) (n : Nat) : List Bool := (List.range n).flatMap fun k => dmods 67 (nthU ds k)
theorem leftM_succ (ds sets : List UInt8) (n : Nat) : leftM ds sets (n + 1) = leftM ds sets n ++ dmods (nthU sets n) (nthU ds n) := by simp [leftM, List.range_succ]
theorem rightM_succ (ds : List UInt8) (n : Nat) : rightM ds (n + 1) = rightM ds n ++ dmods 67 (nthU ds n) := by simp [rightM, List.range_succ]
theorem leftM_length (ds sets : List UInt8) (n : Nat) (h : ∀ k, k < n → isDig (nthU ds k)) : (leftM ds sets n).length = 7 * n := by
  induction n with
  | zero => rfl
  | succ n ih => rw [leftM_succ, List.length_append, ih (fun k hk => h k (by omega)), dmods_length (h n (by omega))]; omega
theorem rightM_length (ds : List UInt8) (n : Nat) (h : ∀ k, k < n → isDig (nthU ds k)) : (rightM ds n).length = 7 * n := by
  induction n with
  | zero => rfl
  | succ n ih => rw [rightM_succ, List.length_append, ih (fun k hk => h k (by omega)), dmods_length (h n (by omega))]; omega
/-- The start and so many digits on the left. -/
def eanL (left sets : List UInt8) (n : Nat) : List Bool := barsFrom true [1, 1, 1] ++ leftM left sets n
/-- All on the left, the middle, and so many on the right. -/
def eanR (left sets right : List UInt8) (n : Nat) : List Bool := eanL left sets left.length ++ barsFrom false [1, 1, 1, 1, 1] ++ rightM right n
def eanRow (left sets right : List UInt8) : List Bool := eanR left sets right right.length ++ barsFrom true [1, 1, 1]
theorem eanL_succ (left sets : List UInt8) (n : Nat) : eanL left sets (n + 1) = eanL left sets n ++ dmods (nthU sets n) (nthU left n) := by
  rw [eanL, leftM_succ, ← List.append_assoc]; rfl
theorem eanR_succ (left sets right : List UInt8) (n : Nat) : eanR left sets right (n + 1) = eanR left sets right n ++ dmods 67 (nthU right n) := by
  rw [eanR, rightM_succ, ← List.append_assoc]; rfl
theorem eanL_length (left sets : List UInt8) (n : Nat) (h : ∀ k, k < n → isDig (nthU left k)) : (eanL left sets n).length = 3 + 7 * n := by
  rw [eanL, List.length_append, leftM_length _ _ _ h]; rfl
theorem eanR_length (left sets right : List UInt8) (n : Nat) (hl : ∀ k, k < left.length → isDig (nthU left k)) (h : ∀ k, k < n → isDig (nthU right k)) : (eanR left sets right n).length = 8 + 7 * left.length + 7 * n := by
  rw [eanR, List.length_append, List.length_append, eanL_length _ _ _ hl, rightM_length _ _ h]
  show 3 + 7 * left.length + 5 + 7 * n = _; omega

/-! The check digit -/
def dig (c : UInt8) : Nat := c.toNat - 48
theorem dig_le {c : UInt8} (h : isDig c) : dig c ≤ 9 := by unfold isDig at h; unfold dig; omega
/-- The sum from the end on, each second one three times. -/
def eanS (ds : List UInt8) (k : Nat) : Nat := ((List.range k).map fun i => dig (nthU ds (ds.length - 1 - i)) * (if i % 2 = 0 then 3 else 1)).sum
theorem eanS_succ (ds : List UInt8) (k : Nat) : eanS ds (k + 1) = eanS ds k + dig (nthU ds (ds.length - 1 - k)) * (if k % 2 = 0 then 3 else 1) := by simp [eanS, List.range_succ]
def eanChk (ds : List UInt8) : Nat := (10 - eanS ds ds.length % 10) % 10
theorem eanChk_lt (ds : List UInt8) : eanChk ds < 10 := Nat.mod_lt _ (by omega)
/-- Each second digit from a place on. -/
def sumA (ds : List UInt8) (o k : Nat) : Nat := ((List.range k).map fun i => dig (nthU ds (ds.length - o - 2 * i))).sum
theorem sumA_succ (ds : List UInt8) (o k : Nat) : sumA ds o (k + 1) = sumA ds o k + dig (nthU ds (ds.length - o - 2 * k)) := by simp [sumA, List.range_succ]
theorem eanS_sums (ds : List UInt8) (k : Nat) : eanS ds k = 3 * sumA ds 1 ((k + 1) / 2) + sumA ds 2 (k / 2) := by
  induction k with
  | zero => rfl
  | succ k ih =>
    rw [eanS_succ, ih]
    rcases Nat.mod_two_eq_zero_or_one k with h | h
    · rw [if_pos h]
      obtain ⟨q, rfl⟩ : ∃ q, k = 2 * q := ⟨k / 2, by omega⟩
      rw [show (2 * q + 1 + 1) / 2 = q + 1 by omega, show (2 * q + 1) / 2 = q by omega, show 2 * q / 2 = q by omega, sumA_succ, show ds.length - 1 - 2 * q = ds.length - 1 - 2 * q from rfl]; omega
    · rw [if_neg (by omega)]
      obtain ⟨q, rfl⟩ : ∃ q, k = 2 * q + 1 := ⟨k / 2, by omega⟩
      rw [show (2 * q + 1 + 1 + 1) / 2 = q + 1 by omega, show (2 * q + 1 + 1) / 2 = q + 1 by omega, show (2 * q + 1) / 2 = q by omega, sumA_succ ds 2, show ds.length - 2 - 2 * q = ds.length - 1 - (2 * q + 1) by omega]; omega
theorem eanS_le (ds : List UInt8) (k : Nat) (h : ∀ i, i < ds.length → isDig (nthU ds i)) (hk : k ≤ ds.length) : eanS ds k ≤ 27 * k := by
  induction k with
  | zero => simp [eanS]
  | succ k ih =>
    rw [eanS_succ]
    have h1 := ih (by omega)
    have h2 := dig_le (h (ds.length - 1 - k) (by omega))
    split <;> omega
theorem sumA_le (ds : List UInt8) (o k : Nat) (h : ∀ i, i < ds.length → isDig (nthU ds i)) (ho : 0 < o) (hn : 0 < ds.length) : sumA ds o k ≤ 9 * k := by
  induction k with
  | zero => simp [sumA]
  | succ k ih =>
    rw [sumA_succ]
    have h2 := dig_le (h (ds.length - o - 2 * k) (by omega))
    omega
theorem eanChk_impl (ds : List UInt8) (h : eanS ds ds.length ≤ 1000) : eanChk ds = (1000 - (3 * sumA ds 1 ((ds.length + 1) / 2) + sumA ds 2 (ds.length / 2))) % 10 := by
  rw [← eanS_sums]
  unfold eanChk
  omega
/-- The byte of a check digit. -/
def chkB (ds : List UInt8) : UInt8 := UInt8.ofNat (48 + eanChk ds)
theorem chkB_toNat (ds : List UInt8) : (chkB ds).toNat = 48 + eanChk ds := by
  have := eanChk_lt ds
  unfold chkB; rw [UInt8.toNat_ofNat']; omega
theorem chkB_dig (ds : List UInt8) : isDig (chkB ds) := by
  have := eanChk_lt ds
  unfold isDig; rw [chkB_toNat]; omega
end Go.Proofs.YtpgddedhhjbgoaaDoor
