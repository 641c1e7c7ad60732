/- Plain functions: Codabar. No program in sight. -/
import Derived.Test.YtpgddedhhjbgoaaDoorPlain
namespace Go.Proofs.YtpgddedhhjbgoaaDoor
open Go.RowKit

/-- Where a byte stands first in a list; its length, if nowhere. -/
def idxU : List UInt8 → UInt8 → Nat
  | [], _ => 0
  | x :: xs, c => if x = c then 0 else idxU xs c + 1
theorem idxU_lt {l : List UInt8} {c : UInt8} (h : c ∈ l) : idxU l c < l.length := by
  induction l with
  | nil => simp at h
  | cons x xs ih =>
    unfold idxU
    by_cases hx : x = c
    · rw [if_pos hx]; simp
    · rw [if_neg hx]
      have := ih (by simp only [List.mem_cons] at h; rcases h with h | h; exact absurd h.symm hx; exact h)
      simp only [List.length_cons]; omega
theorem idxU_get {l : List UInt8} {c : UInt8} (h : c ∈ l) : nthU l (idxU l c) = c := by
  induction l with
  | nil => simp at h
  | cons x xs ih =>
    unfold idxU
    by_cases hx : x = c
    · rw [if_pos hx]; simpa [nthU] using hx
    · rw [if_neg hx]
      have := ih (by simp only [List.mem_cons] at h; rcases h with h | h; exact absurd h.symm hx; exact h)
      simpa [nthU] using this
theorem idxU_min {l : List UInt8} {c : UInt8} {k : Nat} (hk : k < idxU l c) : nthU l k ≠ c := by
  induction l generalizing k with
  | nil => simp [idxU] at hk
  | cons x xs ih =>
    unfold idxU at hk
    by_cases hx : x = c
    · rw [if_pos hx] at hk; omega
    · rw [if_neg hx] at hk
      cases k with
      | zero => simpa [nthU] using hx
      | succ k => have := ih (k := k) (by omega); simpa [nthU] using this

def barSigns : List UInt8 := [48, 49, 50, 51, 52, 53, 54, 55, 56, 57, 45, 36, 58, 47, 46, 43, 65, 66, 67, 68]
/-- The elements of a sign of Codabar. -/
def barEl (c : UInt8) : List Nat := elements (nth barBitsT (idxU barSigns c)) 7 2
/-- A letter of the ends; a sign between them. -/
def isEnd (c : UInt8) : Prop := 65 ≤ c.toNat ∧ c.toNat ≤ 68
def isMid (c : UInt8) : Prop := c ∈ barSigns.take 16
/-- So many signs, each with the narrow white one behind it. -/
def barW (ds : List UInt8) (n : Nat) : List Nat := (List.range n).flatMap fun j => barEl (nthU ds j) ++ [1]
def barWidths (ds : List UInt8) : List Nat := barW ds (ds.length - 1) ++ barEl (nthU ds (ds.length - 1))
def barM (ds : List UInt8) (n : Nat) : List Bool := bars (barW ds n)
theorem barW_succ (ds : List UInt8) (n : Nat) : barW ds (n + 1) = barW ds n ++ (barEl (nthU ds n) ++ [1]) := by simp [barW, List.range_succ]
theorem barEl_length (c : UInt8) : (barEl c).length = 7 := elements_length _ _ _
theorem barW_length (ds : List UInt8) (n : Nat) : (barW ds n).length = 8 * n := by
  induction n with
  | zero => rfl
  | succ n ih => rw [barW_succ, List.length_append, List.length_append, ih, barEl_length]; simp only [List.length_cons, List.length_nil]; omega
theorem colour_even (c : Bool) (n : Nat) (h : n % 2 = 0) : colour c n = c := by unfold colour; rw [if_pos h]
theorem colour_odd (c : Bool) (n : Nat) (h : n % 2 = 1) : colour c n = !c := by unfold colour; rw [if_neg (by omega)]
theorem barM_el (ds : List UInt8) (n : Nat) (el : List Nat) : bars (barW ds n ++ el) = barM ds n ++ barsFrom true el := by
  unfold barM bars
  rw [barsFrom_append, barW_length, colour_even _ _ (by omega)]
theorem barM_succ (ds : List UInt8) (n : Nat) : barM ds (n + 1) = barM ds n ++ barsFrom true (barEl (nthU ds n)) ++ [false] := by
  unfold barM bars
  rw [barW_succ, barsFrom_append, barW_length, colour_even _ _ (by omega), barsFrom_append, barEl_length, colour_odd _ _ (by omega), List.append_assoc]
  rfl
theorem barEl_le (c : UInt8) : ∀ x ∈ barEl c, x ≤ 2 := elements_le _ _ _ _ (by omega) (by omega)
theorem barWidths_le (ds : List UInt8) : ∀ x ∈ barWidths ds, x ≤ 20 := by
  intro x hx
  rw [barWidths, List.mem_append] at hx
  rcases hx with hx | hx
  · obtain ⟨j, _, hx⟩ := List.mem_flatMap.1 hx
    rw [List.mem_append] at hx
    rcases hx with hx | hx
    · have := barEl_le _ _ hx; omega
    · simp at hx; omega
  · have := barEl_le _ _ hx; omega
theorem barWidths_length (ds : List UInt8) (h : 0 < ds.length) : (barWidths ds).length = 8 * ds.length - 1 := by
  rw [barWidths, List.length_append, barW_length, barEl_length]; omega
/-- How wide a sign is. -/
def barSum (c : UInt8) : Nat := (barEl c).sum
theorem barM_length (ds : List UInt8) (n : Nat) : (barM ds (n + 1)).length = (barM ds n).length + barSum (nthU ds n) + 1 := by
  rw [barM_succ, List.length_append, List.length_append, barsFrom_length]; rfl
theorem barSum_mid : ∀ c ∈ barSigns.take 16, barSum c = if (48 ≤ c.toNat ∧ c.toNat ≤ 57) ∨ c.toNat = 45 ∨ c.toNat = 36 then 9 else 10 := by decide
theorem barSum_end {c : UInt8} (h : isEnd c) : barSum c = 10 := by
  obtain ⟨h1, h2⟩ := h
  have : c.toNat = 65 ∨ c.toNat = 66 ∨ c.toNat = 67 ∨ c.toNat = 68 := by omega
  have e : ∀ n : Nat, n < 256 → c.toNat = n → c = UInt8.ofNat n := fun n hn hc => by rw [← hc]; simp
  rcases this with h | h | h | h <;> (rw [e _ (by omega) h]; decide)
theorem mid_facts : ∀ c ∈ barSigns.take 16, c ∈ barSigns ∧ c.toNat < 59 ∧ ((48 ≤ c.toNat ∧ c.toNat ≤ 57) ∨ c.toNat = 45 ∨ c.toNat = 36 ∨ c.toNat = 47 ∨ c.toNat = 58 ∨ c.toNat = 43 ∨ c.toNat = 46) := by decide
theorem end_mem {c : UInt8} (h : isEnd c) : c ∈ barSigns := by
  obtain ⟨h1, h2⟩ := h
  have : c.toNat = 65 ∨ c.toNat = 66 ∨ c.toNat = 67 ∨ c.toNat = 68 := by omega
  have e : ∀ n : Nat, n < 256 → c.toNat = n → c = UInt8.ofNat n := fun n hn hc => by rw [← hc]; simp
  rcases this with h | h | h | h <;> (rw [e _ (by omega) h]; decide)
/-- A text of Codabar: letters at both ends, signs between them. -/
structure BarText (s : ByteArray) : Prop where
  size1 : 4 ≤ s.size
  size2 : s.size ≤ 60
  first : isEnd (nthU (bl s) 0)
  last : isEnd (nthU (bl s) (s.size - 1))
  mid : ∀ i, 0 < i → i + 1 < s.size → isMid (nthU (bl s) i)
theorem BarText.mem {s : ByteArray} (h : BarText s) (i : Nat) (hi : i < s.size) : nthU (bl s) i ∈ barSigns := by
  by_cases h0 : i = 0
  · rw [h0]; exact end_mem h.first
  · by_cases h1 : i = s.size - 1
    · rw [h1]; exact end_mem h.last
    · exact (mid_facts _ (h.mid i (by omega) (by omega))).1
theorem BarText.low {s : ByteArray} (h : BarText s) (i : Nat) (hi : i < s.size) : (nthU (bl s) i).toNat < 97 := by
  by_cases h0 : i = 0
  · rw [h0]; have := h.first.2; omega
  · by_cases h1 : i = s.size - 1
    · rw [h1]; have := h.last.2; omega
    · have := (mid_facts _ (h.mid i (by omega) (by omega))).2.1; omega
end Go.Proofs.YtpgddedhhjbgoaaDoor
