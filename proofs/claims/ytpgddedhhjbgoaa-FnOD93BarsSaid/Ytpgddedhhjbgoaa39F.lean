/- Walks: small functions of the Code 39 writer. -/
import Derived.Test.Ytpgddedhhjbgoaa39P
import Derived.Test.YtpgddedhhjbgoaaIdx
namespace Go.Proofs.Ytpgddedhhjbgoaa
open Go.RowKit

theorem el_get (a i : Nat) (hi : i < 9) : nth (elements a 9 2) i = if (a >>> (8 - i)) % 2 = 1 then 2 else 1 := by
  unfold elements
  rw [nth_eq (by simpa using hi)]
  simp only [List.getElem_map, List.getElem_range]
  rfl

theorem and_pow_bits (a j : Nat) (ha : a ≤ 1000000) (hj : j ≤ 20) : bits .and .i64 (a : Int) (wrap64 (2 ^ j)) = ((a &&& 2 ^ j : Nat) : Int) := by
  have h1 : (2 : Nat) ^ j ≤ 2 ^ 20 := Nat.pow_le_pow_right (by omega) hj
  have h2 : ((2 : Int) ^ j) = ((2 ^ j : Nat) : Int) := by simp
  have h3 : (2 : Nat) ^ 20 = 1048576 := by decide
  generalize (2 : Nat) ^ j = p at *
  rw [h2]
  have h4 : wrap64 (p : Int) = (p : Int) := by unfold wrap64; omega
  rw [h4, bits_and_nat a p (by omega) (by omega)]
theorem pow_yes (a j : Nat) (ha : a ≤ 1000000) (hj : j ≤ 20) (h : ¬ (a >>> j) % 2 = 1) : (bits .and .i64 (a : Int) (wrap64 (2 ^ j)) == 0) = true := by
  rw [and_pow_bits a j ha hj, (and_pow a j).2 h]; rfl
theorem pow_no (a j : Nat) (ha : a ≤ 1000000) (hj : j ≤ 20) (h : (a >>> j) % 2 = 1) : (bits .and .i64 (a : Int) (wrap64 (2 ^ j)) == 0) = false := by
  rw [and_pow_bits a j ha hj, beq_eq_false_iff_ne]
  intro e
  exact (and_pow a j).1 (by omega) h

set_option maxHeartbeats 1000000 in
set_option maxRecDepth 100000 in
theorem toIntArray_any (a g cap base : Nat) (ha : a ≤ 1000) (xs : List Value) (w : World) (hown : w.ownsRow base 3 1 (.slice (some ⟨g, 0, none⟩) 9 cap) 9 xs) :
    Calls Try.prog 43 #[.int .i64 a, .slice (some ⟨g, 0, none⟩) 9 cap] w fun e w' =>
      e = .returned (.tuple #[]) ∧ w'.ownsRow base 3 1 (.slice (some ⟨g, 0, none⟩) 9 cap) 9 ((elements a 9 2).map I64) ∧ w.grownBy w' (some g) := by
  have hxl := own_len hown
  go_enter Try.func43, Try.ntmps43
  go_wp2
  go_loopw [4] (fun i wr => ∃ k : Nat, k ≤ 9 ∧ i = .int .i64 k ∧ wr.ownsRow base 3 1 (.slice (some ⟨g, 0, none⟩) 9 cap) 9 (((elements a 9 2).map I64).take k ++ xs.drop k) ∧ w.grownBy wr (some g)) (fun i _ => 9 - (intOf i).toNat)
  case atStart => exact ⟨0, Nat.zero_le _, rfl, by simpa using hown, World.grownBy.refl _ _⟩
  case round =>
    clear hown
    obtain ⟨k, hk, rfl, hown, hg⟩ := hrel
    by_cases hlt : k < 9
    · have hlen : (((elements a 9 2).map I64).take k).length = k := by rw [List.length_take, List.length_map, elements_length]; omega
      have hc := hown.cellAt k (by omega)
      rw [List.getElem?_append_right (by omega), hlen, Nat.sub_self, List.getElem?_drop, Nat.add_zero, List.getElem?_eq_getElem (by omega)] at hc
      have hf := hown.frozenAt k
      have st := hown.stored k (.int .i64 (nth (elements a 9 2) k : Int))
      have hset : (((elements a 9 2).map I64).take k ++ xs.drop k).set k (.int .i64 (nth (elements a 9 2) k : Int)) = ((elements a 9 2).map I64).take (k + 1) ++ xs.drop (k + 1) := by
        rw [List.set_append_right _ _ (by omega), hlen, Nat.sub_self, List.drop_eq_getElem_cons (by omega), List.set_cons_zero, List.take_succ_eq_append_getElem (by rw [List.length_map, elements_length]; omega), List.append_assoc]
        congr 1
        rw [nth_eq (by rw [elements_length]; omega)]
        simp [I64]
      rw [hset, el_get a k hlt] at st
      have hg2 := grown_trans hg st.2
      have hown2 := st.1
      clear st hset hown hg
      have hfr : ∃ v, xs[k]'(by omega) = v := ⟨_, rfl⟩
      obtain ⟨v0, hv0⟩ := hfr
      rw [hv0] at hc
      clear hv0
      by_cases hb : (a >>> (8 - k)) % 2 = 1
      · rw [if_pos hb] at hown2 hg2
        have hbz := pow_no a (8 - k) (by omega) (by omega) hb
        clear hb
        go_wp2
        go_roundw
        case rel => exact ⟨k + 1, by omega, by go_num, hown2, hg2⟩
        case measure => simp [intOf]; omega
      · rw [if_neg hb] at hown2 hg2
        have hbz := pow_yes a (8 - k) (by omega) (by omega) hb
        clear hb
        go_wp2
        go_roundw
        case rel => exact ⟨k + 1, by omega, by go_num, hown2, hg2⟩
        case measure => simp [intOf]; omega
    · have hk9 : k = 9 := by omega
      have hown' : wr.ownsRow base 3 1 (.slice (some ⟨g, 0, none⟩) 9 cap) 9 ((elements a 9 2).map I64) := by
        have := hown
        rw [hk9, List.take_of_length_le (by rw [List.length_map, elements_length]; omega), List.drop_of_length_le (by omega), List.append_nil] at this
        exact this
      clear hown hk9
      go_wp2
      go_end0
      exact ⟨rfl, hown', hg⟩

theorem enc39_any (w : World) :
    Calls Try.prog 45 #[] w fun e w' => (∃ a c, e = .returned (.slice a 43 c) ∧ SlAt w' (.slice a 43 c) ((bits39T.take 43).map I64)) ∧ Below w.heap.size w w' := by
  go_enter Try.func45, Try.ntmps45
  go_wp2
  go_ret
  exact ⟨⟨_, _, rfl, SlAt.of_own (own_lit w 3 ((bits39T.take 43).map I64) (by decide))⟩, below_alloc _ _⟩
end Go.Proofs.Ytpgddedhhjbgoaa
