/- Plain functions: Code 39. No program in sight. -/
import Derived.Test.YtpgddedhhjbgoaaBarP
namespace Go.Proofs.Ytpgddedhhjbgoaa
open Go.RowKit

def signs39 : List UInt8 := [48, 49, 50, 51, 52, 53, 54, 55, 56, 57, 65, 66, 67, 68, 69, 70, 71, 72, 73, 74, 75, 76, 77, 78, 79, 80, 81, 82, 83, 84, 85, 86, 87, 88, 89, 90, 45, 46, 32, 36, 47, 43, 37]
def signs39B : ByteArray := ⟨#[48, 49, 50, 51, 52, 53, 54, 55, 56, 57, 65, 66, 67, 68, 69, 70, 71, 72, 73, 74, 75, 76, 77, 78, 79, 80, 81, 82, 83, 84, 85, 86, 87, 88, 89, 90, 45, 46, 32, 36, 47, 43, 37]⟩
/-- The elements of a character of Code 39; of the ends. -/
def el39 (c : UInt8) : List Nat := elements (nth bits39T (idxU signs39 c)) 9 2
def end39 : List Nat := elements 148 9 2
/-- The start and so many characters, each with the narrow white one behind it. -/
def w39 (ds : List UInt8) (n : Nat) : List Nat := end39 ++ [1] ++ (List.range n).flatMap fun j => el39 (nthU ds j) ++ [1]
def widths39 (ds : List UInt8) : List Nat := w39 ds ds.length ++ end39
def m39 (ds : List UInt8) (n : Nat) : List Bool := bars (w39 ds n)
theorem el39_length (c : UInt8) : (el39 c).length = 9 := elements_length _ _ _
theorem end39_length : end39.length = 9 := rfl
theorem w39_succ (ds : List UInt8) (n : Nat) : w39 ds (n + 1) = w39 ds n ++ (el39 (nthU ds n) ++ [1]) := by simp [w39, List.range_succ]
theorem w39_length (ds : List UInt8) (n : Nat) : (w39 ds n).length = 10 + 10 * n := by
  induction n with
  | zero => rfl
  | succ n ih => rw [w39_succ, List.length_append, List.length_append, ih, el39_length]; simp only [List.length_cons, List.length_nil]; omega
theorem m39_succ (ds : List UInt8) (n : Nat) : m39 ds (n + 1) = m39 ds n ++ barsFrom true (el39 (nthU ds n)) ++ barsFrom false [1] := by
  unfold m39 bars
  rw [w39_succ, barsFrom_append, w39_length, colour_even _ _ (by omega), barsFrom_append, el39_length, colour_odd _ _ (by omega), List.append_assoc]
  rfl
theorem m39_zero (ds : List UInt8) : m39 ds 0 = barsFrom true end39 ++ barsFrom false [1] := by
  unfold m39 bars w39
  simp only [List.range_zero, List.flatMap_nil, List.append_nil]
  rw [barsFrom_append, end39_length, colour_odd _ _ (by omega)]; rfl
theorem m39_end (ds : List UInt8) : bars (widths39 ds) = m39 ds ds.length ++ barsFrom true end39 := by
  unfold m39 bars widths39
  rw [barsFrom_append, w39_length, colour_even _ _ (by omega)]
theorem bits39_sum : ∀ k, k < 44 → (elements (nth bits39T k) 9 2).sum = 12 := by decide
theorem el39_sum {c : UInt8} (h : c ∈ signs39) : (el39 c).sum = 12 := bits39_sum _ (by have := idxU_lt h; have e : signs39.length = 43 := rfl; omega)
theorem m39_length (ds : List UInt8) (n : Nat) (h : ∀ i, i < n → nthU ds i ∈ signs39) : (m39 ds n).length = 13 + 13 * n := by
  induction n with
  | zero => rfl
  | succ n ih =>
    rw [m39_succ, List.length_append, List.length_append, ih (fun i hi => h i (by omega)), barsFrom_length, el39_sum (h n (by omega))]
    show _ + _ + 1 = _; omega
theorem widths39_le (ds : List UInt8) : ∀ x ∈ widths39 ds, x ≤ 20 := by
  have e1 : ∀ x ∈ end39, x ≤ 2 := elements_le _ _ _ _ (by omega) (by omega)
  intro x hx
  simp only [widths39, w39, List.mem_append, List.mem_singleton] at hx
  rcases hx with ((hx | hx) | hx) | hx
  · have := e1 _ hx; omega
  · omega
  · obtain ⟨j, _, hx⟩ := List.mem_flatMap.1 hx
    rw [List.mem_append, List.mem_singleton] at hx
    rcases hx with hx | hx
    · have := elements_le _ _ _ 2 (by omega) (by omega) _ hx; omega
    · omega
  · have := e1 _ hx; omega
theorem widths39_length (ds : List UInt8) : (widths39 ds).length = 19 + 10 * ds.length := by
  rw [widths39, List.length_append, w39_length, end39_length]; omega
/-- The text's form in the reference: the narrow white one ahead of each but the first. -/
def v39 (ds : List UInt8) (n : Nat) : List Nat := end39 ++ (List.range n).flatMap fun j => [1] ++ el39 (nthU ds j)
theorem v39_succ (ds : List UInt8) (n : Nat) : v39 ds (n + 1) = v39 ds n ++ [1] ++ el39 (nthU ds n) := by simp [v39, List.range_succ]
theorem v39_eq (ds : List UInt8) (n : Nat) : v39 ds n ++ [1] = w39 ds n := by
  induction n with
  | zero => simp [v39, w39]
  | succ n ih => rw [v39_succ, ih, w39_succ, List.append_assoc]
theorem v39_end (ds : List UInt8) : v39 ds ds.length ++ [1] ++ end39 = widths39 ds := by rw [v39_eq, widths39]
theorem v39_length (ds : List UInt8) (n : Nat) : (v39 ds n).length = 9 + 10 * n := by
  have := congrArg List.length (v39_eq ds n)
  rw [w39_length, List.length_append] at this
  simp only [List.length_cons, List.length_nil] at this; omega
theorem and_pow (a k : Nat) : (a &&& 2 ^ k = 0) ↔ ¬ (a >>> k) % 2 = 1 := by
  have h1 : (a >>> k) % 2 = (a.testBit k).toNat := by
    rw [Nat.testBit, Nat.one_and_eq_mod_two]
    rcases Nat.mod_two_eq_zero_or_one (a >>> k) with h | h <;> simp [h]
  constructor
  · intro h hb
    have := congrArg (fun n => n.testBit k) h
    simp [Nat.testBit_and, Nat.testBit_two_pow] at this
    rw [h1, this] at hb; simp at hb
  · intro h
    have hk : a.testBit k = false := by
      cases hb : a.testBit k with
      | false => rfl
      | true => rw [h1, hb] at h; simp at h
    apply Nat.eq_of_testBit_eq
    intro i
    rw [Nat.testBit_and, Nat.testBit_two_pow, Nat.zero_testBit]
    by_cases e : k = i
    · subst e; simp [hk]
    · simp [e]
end Go.Proofs.Ytpgddedhhjbgoaa
