/- Plain functions: Code 93. No program in sight. -/
import Derived.Test.YtpgddedhhjbgoaaPairP
namespace Go.Proofs.Ytpgddedhhjbgoaa
open Go.RowKit

def signs93 : List UInt8 := [48, 49, 50, 51, 52, 53, 54, 55, 56, 57, 65, 66, 67, 68, 69, 70, 71, 72, 73, 74, 75, 76, 77, 78, 79, 80, 81, 82, 83, 84, 85, 86, 87, 88, 89, 90, 45, 46, 32, 36, 47, 43, 37, 97, 98, 99, 100]
def signs93B : ByteArray := ⟨#[48, 49, 50, 51, 52, 53, 54, 55, 56, 57, 65, 66, 67, 68, 69, 70, 71, 72, 73, 74, 75, 76, 77, 78, 79, 80, 81, 82, 83, 84, 85, 86, 87, 88, 89, 90, 45, 46, 32, 36, 47, 43, 37, 97, 98, 99, 100]⟩
/-- The writer's alphabet: the ends' sign behind the others. -/
def signs93S : List UInt8 := signs93 ++ [42]
def signs93SB : ByteArray := ⟨#[48, 49, 50, 51, 52, 53, 54, 55, 56, 57, 65, 66, 67, 68, 69, 70, 71, 72, 73, 74, 75, 76, 77, 78, 79, 80, 81, 82, 83, 84, 85, 86, 87, 88, 89, 90, 45, 46, 32, 36, 47, 43, 37, 97, 98, 99, 100, 42]⟩
theorem bl_signs93 : bl signs93B = signs93 := rfl
theorem bl_signs93S : bl signs93SB = signs93S := rfl
theorem idxU_append {l m : List UInt8} {c : UInt8} (h : c ∈ l) : idxU (l ++ m) c = idxU l c := by
  induction l with
  | nil => simp at h
  | cons x xs ih =>
    rw [List.cons_append, idxU, idxU]
    by_cases hx : x = c
    · rw [if_pos hx, if_pos hx]
    · rw [if_neg hx, if_neg hx, ih (by simp only [List.mem_cons] at h; rcases h with h | h; exact absurd h.symm hx; exact h)]
theorem idx93_S {c : UInt8} (h : c ∈ signs93) : idxU (bl signs93SB) c = idxU signs93 c := idxU_append h

/-- The classes of a byte below 128, each with what stands for it. -/
inductive Pair93 (c : UInt8) : List UInt8 → Prop
  | nul : c.toNat = 0 → Pair93 c [98, 85]
  | dollar (d : UInt8) : 1 ≤ c.toNat → c.toNat ≤ 26 → d.toNat = c.toNat + 64 → Pair93 c [97, d]
  | esc (d : UInt8) : 27 ≤ c.toNat → c.toNat ≤ 31 → d.toNat = c.toNat + 38 → Pair93 c [98, d]
  | four : (c.toNat = 32 ∨ c.toNat = 36 ∨ c.toNat = 37 ∨ c.toNat = 43) → Pair93 c [c]
  | slash (d : UInt8) : ((33 ≤ c.toNat ∧ c.toNat ≤ 35) ∨ (38 ≤ c.toNat ∧ c.toNat ≤ 42) ∨ c.toNat = 44) → d.toNat = c.toNat + 32 → Pair93 c [99, d]
  | own : ((45 ≤ c.toNat ∧ c.toNat ≤ 57) ∨ (65 ≤ c.toNat ∧ c.toNat ≤ 90)) → Pair93 c [c]
  | colon : c.toNat = 58 → Pair93 c [99, 90]
  | semi (d : UInt8) : 59 ≤ c.toNat → c.toNat ≤ 63 → d.toNat = c.toNat + 11 → Pair93 c [98, d]
  | att : c.toNat = 64 → Pair93 c [98, 86]
  | brack (d : UInt8) : 91 ≤ c.toNat → c.toNat ≤ 95 → d.toNat + 16 = c.toNat → Pair93 c [98, d]
  | grave : c.toNat = 96 → Pair93 c [98, 87]
  | small (d : UInt8) : 97 ≤ c.toNat → c.toNat ≤ 122 → d.toNat + 32 = c.toNat → Pair93 c [100, d]
  | brace (d : UInt8) : 123 ≤ c.toNat → c.toNat ≤ 127 → d.toNat + 43 = c.toNat → Pair93 c [98, d]
/-- The shift that stands for a sign ahead of a letter. -/
def shift93 (x : UInt8) : UInt8 := if x = 36 then 97 else if x = 37 then 98 else if x = 47 then 99 else 100
def pair93 (c : UInt8) : List UInt8 :=
  if c = 36 ∨ c = 37 ∨ c = 43 ∨ c = 47 then [c] else match pair39 c with | [x, d] => [shift93 x, d] | l => l
theorem pair93_is (c : UInt8) (h : c.toNat < 128) : Pair93 c (pair93 c) := by
  have hp := pair39_is c h
  have ne : ∀ n : UInt8, c.toNat ≠ n.toNat → c ≠ n := fun n h e => h (by rw [e])
  unfold pair93
  by_cases h4 : c = 36 ∨ c = 37 ∨ c = 43 ∨ c = 47
  · rw [if_pos h4]
    rcases h4 with rfl | rfl | rfl | rfl
    · exact .four (by decide)
    · exact .four (by decide)
    · exact .four (by decide)
    · exact .own (by decide)
  · rw [if_neg h4]
    have e1 : c.toNat ≠ 36 := fun e => h4 (.inl (UInt8.toNat.inj e))
    have e2 : c.toNat ≠ 37 := fun e => h4 (.inr (.inl (UInt8.toNat.inj e)))
    have e3 : c.toNat ≠ 43 := fun e => h4 (.inr (.inr (.inl (UInt8.toNat.inj e))))
    have e4 : c.toNat ≠ 47 := fun e => h4 (.inr (.inr (.inr (UInt8.toNat.inj e))))
    clear h4 ne
    generalize pair39 c = P at *
    cases hp
    case nul h1 => exact .nul h1
    case dollar d h1 h2 h3 => exact .dollar d h1 h2 h3
    case esc d h1 h2 h3 => exact .esc d h1 h2 h3
    case own h1 =>
      by_cases h32 : c.toNat = 32
      · exact .four (.inl h32)
      · exact .own (by omega)
    case slash d h1 h3 => exact .slash d (by omega) h3
    case colon h1 => exact .colon h1
    case semi d h1 h2 h3 => exact .semi d h1 h2 h3
    case att h1 => exact .att h1
    case brack d h1 h2 h3 => exact .brack d h1 h2 h3
    case grave h1 => exact .grave h1
    case small d h1 h2 h3 => exact .small d h1 h2 h3
    case brace d h1 h2 h3 => exact .brace d h1 h2 h3
def pairs93 (ds : List UInt8) (n : Nat) : List UInt8 := (List.range n).flatMap fun j => pair93 (nthU ds j)
theorem pairs93_succ (ds : List UInt8) (n : Nat) : pairs93 ds (n + 1) = pairs93 ds n ++ pair93 (nthU ds n) := by simp [pairs93, List.range_succ]
theorem pair93_length (c : UInt8) (h : c.toNat < 128) : (pair93 c).length ≤ 2 ∧ 1 ≤ (pair93 c).length := by
  have hp := pair93_is c h
  generalize pair93 c = P at *
  cases hp <;> simp
theorem signs93_of (c : UInt8) (h : (65 ≤ c.toNat ∧ c.toNat ≤ 90) ∨ (45 ≤ c.toNat ∧ c.toNat ≤ 57) ∨ c.toNat = 32 ∨ c.toNat = 36 ∨ c.toNat = 37 ∨ c.toNat = 43 ∨ (97 ≤ c.toNat ∧ c.toNat ≤ 100)) : c ∈ signs93 := by
  have key : ∀ n, n < 101 → ((65 ≤ n ∧ n ≤ 90) ∨ (45 ≤ n ∧ n ≤ 57) ∨ n = 32 ∨ n = 36 ∨ n = 37 ∨ n = 43 ∨ (97 ≤ n ∧ n ≤ 100)) → UInt8.ofNat n ∈ signs93 := by decide
  have := key c.toNat (by omega) h
  simpa using this
theorem pair93_signs (c : UInt8) (h : c.toNat < 128) : ∀ x ∈ pair93 c, x ∈ signs93 := by
  have hp := pair93_is c h
  generalize pair93 c = l at *
  intro x hx
  cases hp <;> simp only [List.mem_cons, List.not_mem_nil, or_false] at hx <;> (first | (rcases hx with rfl | rfl <;> (first | decide | (apply signs93_of; omega))) | (subst hx; apply signs93_of; omega))
theorem pairs93_signs (ds : List UInt8) (n : Nat) (h : ∀ i, i < n → (nthU ds i).toNat < 128) : ∀ x ∈ pairs93 ds n, x ∈ signs93 := by
  intro x hx
  obtain ⟨j, hj, hx⟩ := List.mem_flatMap.1 hx
  exact pair93_signs _ (h j (List.mem_range.1 hj)) x hx
theorem pairs93_length (ds : List UInt8) (n : Nat) (h : ∀ i, i < n → (nthU ds i).toNat < 128) : (pairs93 ds n).length ≤ 2 * n ∧ n ≤ (pairs93 ds n).length := by
  induction n with
  | zero => simp [pairs93]
  | succ n ih =>
    rw [pairs93_succ, List.length_append]
    have h1 := ih (fun i hi => h i (by omega))
    have h2 := pair93_length _ (h n (by omega))
    omega
theorem signs93_low : ∀ c ∈ signs93, c.toNat < 128 := by decide

theorem all_memU {s : ByteArray} {P : UInt8 → Prop} (h : ∀ c ∈ bl s, P c) : ∀ i, i < s.size → P (nthU (bl s) i) := fun i hi => by
  have hi' : i < (bl s).length := by rw [bl_length]; exact hi
  rw [nthU_eq hi']; exact h _ (List.getElem_mem hi')

/-! Modules -/
def bit9 (a i : Nat) : Bool := decide ((a >>> (8 - i)) % 2 = 1)
/-- The nine modules of a pattern. -/
def bits9 (a : Nat) : List Bool := (List.range 9).map (bit9 a)
theorem bits9_length (a : Nat) : (bits9 a).length = 9 := by simp [bits9]
/-- The first modules of a pattern. -/
def bits9k (a k : Nat) : List Bool := (List.range k).map (bit9 a)
theorem bits9k_succ (a k : Nat) : bits9k a (k + 1) = bits9k a k ++ [bit9 a k] := by simp [bits9k, List.range_succ]
theorem bits9k_length (a k : Nat) : (bits9k a k).length = k := by simp [bits9k]
theorem bits9k_full (a : Nat) : bits9k a 9 = bits9 a := rfl
/-- The modules of values. -/
def mods93 (vs : List Nat) : List Bool := vs.flatMap fun n => bits9 (nth bits93T n)
theorem mods93_append (a b : List Nat) : mods93 (a ++ b) = mods93 a ++ mods93 b := by simp [mods93]
theorem mods93_one (n : Nat) : mods93 [n] = bits9 (nth bits93T n) := by simp [mods93]
theorem mods93_length (vs : List Nat) : (mods93 vs).length = 9 * vs.length := by
  induction vs with
  | nil => rfl
  | cons x xs ih =>
    rw [show x :: xs = [x] ++ xs from rfl, mods93_append, List.length_append, mods93_one, bits9_length, ih, List.length_append]
    simp only [List.length_cons, List.length_nil]; omega
/-- The values of signs. -/
def vals93 (ds : List UInt8) : List Nat := ds.map (idxU signs93)
theorem vals93_append (a b : List UInt8) : vals93 (a ++ b) = vals93 a ++ vals93 b := by simp [vals93]
theorem vals93_length (ds : List UInt8) : (vals93 ds).length = ds.length := by simp [vals93]
theorem vals93_nth (ds : List UInt8) (k : Nat) (h : k < ds.length) : nth (vals93 ds) k = idxU signs93 (nthU ds k) := by
  rw [nth_eq (by rw [vals93_length]; exact h), nthU_eq h]; simp [vals93]
theorem vals93_le (ds : List UInt8) (h : ∀ c ∈ ds, c ∈ signs93) : ∀ x ∈ vals93 ds, x ≤ 46 := by
  intro x hx
  obtain ⟨c, hc, rfl⟩ := List.mem_map.1 hx
  have := idxU_lt (h c hc)
  have e : signs93.length = 47 := rfl
  omega
/-- The sum with weights from the last one on. -/
def wsum (vs : List Nat) (m k : Nat) : Nat := ((List.range k).map fun i => nth vs (vs.length - 1 - i) * (1 + i % m)).sum
theorem wsum_succ (vs : List Nat) (m k : Nat) : wsum vs m (k + 1) = wsum vs m k + nth vs (vs.length - 1 - k) * (1 + k % m) := by simp [wsum, List.range_succ]
theorem wsum_le (vs : List Nat) (m k : Nat) (h : ∀ x ∈ vs, x ≤ 46) (hm : 0 < m) (hm2 : m ≤ 20) : wsum vs m k ≤ 920 * k := by
  induction k with
  | zero => simp [wsum]
  | succ k ih =>
    rw [wsum_succ]
    have h1 := nth_le h (vs.length - 1 - k)
    have h2 : 1 + k % m ≤ 20 := by have := Nat.mod_lt k hm; omega
    have := Nat.mul_le_mul h1 h2
    omega
def check93 (vs : List Nat) (m : Nat) : Nat := wsum vs m vs.length % 47
theorem check93_lt (vs : List Nat) (m : Nat) : check93 vs m < 47 := Nat.mod_lt _ (by omega)
/-- The values with both checks. -/
def checked1 (vs : List Nat) : List Nat := vs ++ [check93 vs 20]
def checked2 (vs : List Nat) : List Nat := checked1 vs ++ [check93 (checked1 vs) 15]
/-- The whole row of a text of signs. -/
def row93 (ds : List UInt8) : List Bool := mods93 ([47] ++ checked2 (vals93 ds) ++ [47]) ++ [true]
theorem row93_length (ds : List UInt8) : (row93 ds).length = (ds.length + 4) * 9 + 1 := by
  rw [row93, List.length_append, mods93_length]
  simp only [checked2, checked1, List.length_append, List.length_cons, List.length_nil, vals93_length]; omega
theorem wrap_next (m k : Nat) (h : 0 < m) : (1 + k % m + 1 > m → 1 + (k + 1) % m = 1) ∧ (¬ 1 + k % m + 1 > m → 1 + (k + 1) % m = 1 + k % m + 1) := by
  have h1 := Nat.mod_lt k h
  have h2 : (k + 1) % m = (k % m + 1) % m := (Nat.mod_add_mod k m 1).symm
  constructor
  · intro h3
    have : k % m + 1 = m := by omega
    rw [h2, this, Nat.mod_self]
  · intro h3
    rw [h2, Nat.mod_eq_of_lt (by omega)]; omega
/-- The sign of a value. -/
theorem sign_at (n : Nat) (h : n < 47) : nthU (bl signs93SB) n ∈ signs93 ∧ idxU signs93 (nthU (bl signs93SB) n) = n := by
  have key : ∀ n, n < 47 → nthU signs93S n ∈ signs93 ∧ idxU signs93 (nthU signs93S n) = n := by decide
  exact key n h
theorem sign_get (n : Nat) (h : n < 47) : ∃ B : UInt8, (⟨#[48, 49, 50, 51, 52, 53, 54, 55, 56, 57, 65, 66, 67, 68, 69, 70, 71, 72, 73, 74, 75, 76, 77, 78, 79, 80, 81, 82, 83, 84, 85, 86, 87, 88, 89, 90, 45, 46, 32, 36, 47, 43, 37, 97, 98, 99, 100, 42]⟩ : ByteArray)[n]'(show n < 48 by omega) = B ∧ B ∈ signs93 ∧ idxU signs93 B = n :=
  ⟨_, bl_get signs93SB n (show n < 48 by omega), (sign_at n h).1, (sign_at n h).2⟩
end Go.Proofs.Ytpgddedhhjbgoaa
