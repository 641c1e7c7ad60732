/- Plain functions: bytes below 128 by pairs of Code 39's characters. No program in sight. -/
import Derived.Test.Ytpgddedhhjbgoaa39P
namespace Go.Proofs.Ytpgddedhhjbgoaa
open Go.RowKit

/-- The twelve classes of a byte below 128, each with what stands for it. -/
inductive Pair39 (c : UInt8) : List UInt8 → Prop
  | nul : c.toNat = 0 → Pair39 c [37, 85]
  | dollar (d : UInt8) : 1 ≤ c.toNat → c.toNat ≤ 26 → d.toNat = c.toNat + 64 → Pair39 c [36, d]
  | esc (d : UInt8) : 27 ≤ c.toNat → c.toNat ≤ 31 → d.toNat = c.toNat + 38 → Pair39 c [37, d]
  | own : (c.toNat = 32 ∨ c.toNat = 45 ∨ c.toNat = 46 ∨ (48 ≤ c.toNat ∧ c.toNat ≤ 57) ∨ (65 ≤ c.toNat ∧ c.toNat ≤ 90)) → Pair39 c [c]
  | slash (d : UInt8) : ((33 ≤ c.toNat ∧ c.toNat ≤ 44) ∨ c.toNat = 47) → d.toNat = c.toNat + 32 → Pair39 c [47, d]
  | colon : c.toNat = 58 → Pair39 c [47, 90]
  | semi (d : UInt8) : 59 ≤ c.toNat → c.toNat ≤ 63 → d.toNat = c.toNat + 11 → Pair39 c [37, d]
  | att : c.toNat = 64 → Pair39 c [37, 86]
  | brack (d : UInt8) : 91 ≤ c.toNat → c.toNat ≤ 95 → d.toNat + 16 = c.toNat → Pair39 c [37, d]
  | grave : c.toNat = 96 → Pair39 c [37, 87]
  | small (d : UInt8) : 97 ≤ c.toNat → c.toNat ≤ 122 → d.toNat + 32 = c.toNat → Pair39 c [43, d]
  | brace (d : UInt8) : 123 ≤ c.toNat → c.toNat ≤ 127 → d.toNat + 43 = c.toNat → Pair39 c [37, d]
/-- What stands for a byte. -/
def pair39 (c : UInt8) : List UInt8 :=
  let n := c.toNat
  if n = 0 then [37, 85] else if n ≤ 26 then [36, UInt8.ofNat (n + 64)] else if n ≤ 31 then [37, UInt8.ofNat (n + 38)]
  else if n = 32 ∨ n = 45 ∨ n = 46 ∨ (48 ≤ n ∧ n ≤ 57) ∨ (65 ≤ n ∧ n ≤ 90) then [c]
  else if n ≤ 47 then [47, UInt8.ofNat (n + 32)] else if n = 58 then [47, 90] else if n ≤ 63 then [37, UInt8.ofNat (n + 11)]
  else if n = 64 then [37, 86] else if n ≤ 95 then [37, UInt8.ofNat (n - 16)] else if n = 96 then [37, 87]
  else if n ≤ 122 then [43, UInt8.ofNat (n - 32)] else [37, UInt8.ofNat (n - 43)]
theorem pair39_is (c : UInt8) (h : c.toNat < 128) : Pair39 c (pair39 c) := by
  have e : ∀ n, n < 256 → (UInt8.ofNat n).toNat = n := fun n hn => by rw [UInt8.toNat_ofNat']; omega
  unfold pair39
  simp only
  by_cases h1 : c.toNat = 0
  · rw [if_pos h1]; exact .nul h1
  rw [if_neg h1]
  by_cases h2 : c.toNat ≤ 26
  · rw [if_pos h2]; exact .dollar _ (by omega) h2 (e _ (by omega))
  rw [if_neg h2]
  by_cases h3 : c.toNat ≤ 31
  · rw [if_pos h3]; exact .esc _ (by omega) h3 (e _ (by omega))
  rw [if_neg h3]
  by_cases h4 : c.toNat = 32 ∨ c.toNat = 45 ∨ c.toNat = 46 ∨ (48 ≤ c.toNat ∧ c.toNat ≤ 57) ∨ (65 ≤ c.toNat ∧ c.toNat ≤ 90)
  · rw [if_pos h4]; exact .own h4
  rw [if_neg h4]
  by_cases h5 : c.toNat ≤ 47
  · rw [if_pos h5]; exact .slash _ (by omega) (e _ (by omega))
  rw [if_neg h5]
  by_cases h6 : c.toNat = 58
  · rw [if_pos h6]; exact .colon h6
  rw [if_neg h6]
  by_cases h7 : c.toNat ≤ 63
  · rw [if_pos h7]; exact .semi _ (by omega) h7 (e _ (by omega))
  rw [if_neg h7]
  by_cases h8 : c.toNat = 64
  · rw [if_pos h8]; exact .att h8
  rw [if_neg h8]
  by_cases h9 : c.toNat ≤ 95
  · rw [if_pos h9]; exact .brack _ (by omega) h9 (by rw [e _ (by omega)]; omega)
  rw [if_neg h9]
  by_cases h10 : c.toNat = 96
  · rw [if_pos h10]; exact .grave h10
  rw [if_neg h10]
  by_cases h11 : c.toNat ≤ 122
  · rw [if_pos h11]; exact .small _ (by omega) h11 (by rw [e _ (by omega)]; omega)
  rw [if_neg h11]
  exact .brace _ (by omega) (by omega) (by rw [e _ (by omega)]; omega)
def pairs39 (ds : List UInt8) (n : Nat) : List UInt8 := (List.range n).flatMap fun j => pair39 (nthU ds j)
theorem pairs39_succ (ds : List UInt8) (n : Nat) : pairs39 ds (n + 1) = pairs39 ds n ++ pair39 (nthU ds n) := by simp [pairs39, List.range_succ]
theorem pair39_length (c : UInt8) : (pair39 c).length ≤ 2 := by
  unfold pair39; simp only; repeat' split
  all_goals simp
theorem pairs39_length (ds : List UInt8) (n : Nat) : (pairs39 ds n).length ≤ 2 * n := by
  induction n with
  | zero => simp [pairs39]
  | succ n ih => rw [pairs39_succ, List.length_append]; have := pair39_length (nthU ds n); omega
theorem signs39_of (c : UInt8) (h : (65 ≤ c.toNat ∧ c.toNat ≤ 90) ∨ (48 ≤ c.toNat ∧ c.toNat ≤ 57) ∨ c.toNat = 32 ∨ c.toNat = 45 ∨ c.toNat = 46 ∨ c.toNat = 36 ∨ c.toNat = 37 ∨ c.toNat = 43 ∨ c.toNat = 47) : c ∈ signs39 := by
  have key : ∀ n, n < 91 → ((65 ≤ n ∧ n ≤ 90) ∨ (48 ≤ n ∧ n ≤ 57) ∨ n = 32 ∨ n = 45 ∨ n = 46 ∨ n = 36 ∨ n = 37 ∨ n = 43 ∨ n = 47) → UInt8.ofNat n ∈ signs39 := by decide
  have := key c.toNat (by omega) h
  simpa using this
theorem pair39_signs (c : UInt8) (h : c.toNat < 128) : ∀ x ∈ pair39 c, x ∈ signs39 := by
  have hp := pair39_is c h
  generalize pair39 c = l at *
  intro x hx
  cases hp <;> simp only [List.mem_cons, List.not_mem_nil, or_false] at hx <;> (first | (rcases hx with rfl | rfl <;> (first | decide | (apply signs39_of; omega))) | (subst hx; apply signs39_of; omega))
end Go.Proofs.Ytpgddedhhjbgoaa
