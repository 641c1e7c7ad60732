/- Walks: spec.OD93Shifted. -/
import Derived.Test.Ytpgddedhhjbgoaa93P
import Derived.Test.YtpgddedhhjbgoaaPairS
import Derived.Test.YtpgddedhhjbgoaaBarF
namespace Go.Proofs.Ytpgddedhhjbgoaa
open Go.RowKit

def fourS : ByteArray := ⟨#[36, 37, 47, 43]⟩
def abcdS : ByteArray := ⟨#[97, 98, 99, 100]⟩
theorem pair39_form (c : UInt8) (h : c.toNat < 128) : pair39 c = [c] ∨ ∃ x d, pair39 c = [x, d] ∧ x ∈ bl fourS := by
  have hp := pair39_is c h
  generalize pair39 c = P at *
  cases hp
  case own => exact .inl rfl
  all_goals exact .inr ⟨_, _, rfl, by decide⟩
theorem four_idx : ∀ x ∈ bl fourS, idxU (bl fourS) x < 4 ∧ nthU (bl abcdS) (idxU (bl fourS) x) = shift93 x := by decide
theorem ne_beq (c : UInt8) (n : Nat) (hn : n < 256) (h : c ≠ UInt8.ofNat n) : ((c.toNat : Int) == (n : Int)) = false := by
  rw [beq_eq_false_iff_ne]
  intro e
  exact h (UInt8.toNat.inj (by rw [UInt8.toNat_ofNat']; omega))
theorem len_of_bl {s : ByteArray} {l : List UInt8} (h : bl s = l) : s.size = l.length := by rw [← h, bl_length]

set_option maxHeartbeats 4000000 in
set_option maxRecDepth 100000 in
theorem OD93Shifted_any (s : ByteArray) (w : World) (hs : s.size ≤ 100000) (ha : ∀ i, i < s.size → (nthU (bl s) i).toNat < 128) :
    Calls Try.prog 14 #[.string s] w fun e w' => (∃ r : ByteArray, e = .returned (.string r) ∧ bl r = pairs93 (bl s) s.size) ∧ Below w.heap.size w w' := by
  have HA := Lib.hid ha
  clear ha
  go_enter Try.func14, Try.ntmps14
  go_wp2
  go_loopw [3, 4, 5, 6, 7] (fun o i _ _ _ wr => ∃ (k : Nat) (r : ByteArray), k ≤ s.size ∧ i = .int .i64 k ∧ o = .string r ∧ r.size ≤ 2 * k ∧ Hid (bl r = pairs93 (bl s) k) ∧ Below w.heap.size w wr) (fun _ i _ _ _ _ => s.size - (intOf i).toNat)
  case atStart => exact ⟨0, ⟨#[]⟩, Nat.zero_le _, rfl, rfl, Nat.le_refl _, Lib.hid rfl, Below.refl _ _⟩
  case round =>
    obtain ⟨k, r, hk, rfl, rfl, hrs, hr, hb⟩ := hrel
    by_cases hlt : k < s.size
    · have hbyte := bl_get s k hlt
      have hlow := HA.out k hlt
      have hps := pairs93_succ (bl s) k
      rw [← hr.out] at hps
      have hnb : Hid (bl (s.extract k (k + 1)) = [nthU (bl s) k]) := Lib.hid (bl_extract1 s k (k + 1) hlt rfl)
      generalize nthU (bl s) k = c at *
      have HPS := Lib.hid hps
      have hsz := hb.size
      clear hps hr
      by_cases h4 : c = 36 ∨ c = 37 ∨ c = 43 ∨ c = 47
      · have hpc : Hid (pair93 c = [c]) := Lib.hid (by rw [pair93, if_pos h4])
        have hc4 : c.toNat = 36 ∨ c.toNat = 37 ∨ c.toNat = 43 ∨ c.toNat = 47 := by
          rcases h4 with rfl | rfl | rfl | rfl <;> decide
        clear h4
        rcases hc4 with h1 | h1 | h1 | h1
        all_goals
          go_wp2
          go_roundw
          case rel => exact ⟨k + 1, _, by omega, by go_num, rfl, by rw [ByteArray.size_append', ByteArray.size_extract]; omega, Lib.hid (by rw [HPS.out, bl_append, hnb.out, hpc.out]), hb⟩
          case measure => simp [intOf]; omega
      · have e1 : ((c.toNat : Int) == 36) = false := ne_beq c 36 (by omega) (fun e => h4 (.inl e))
        have e2 : ((c.toNat : Int) == 37) = false := ne_beq c 37 (by omega) (fun e => h4 (.inr (.inl e)))
        have e3 : ((c.toNat : Int) == 43) = false := ne_beq c 43 (by omega) (fun e => h4 (.inr (.inr (.inl e))))
        have e4 : ((c.toNat : Int) == 47) = false := ne_beq c 47 (by omega) (fun e => h4 (.inr (.inr (.inr e))))
        have hx1 : (s.extract k (k + 1)).size = 1 := len_of_bl hnb.out
        have hxa : Hid (∀ i, i < (s.extract k (k + 1)).size → (nthU (bl (s.extract k (k + 1))) i).toNat < 128) := Lib.hid (by
          rw [hx1, hnb.out]; intro i hi
          obtain rfl : i = 0 := by omega
          exact hlow)
        have hx39 : Hid (pairs39 (bl (s.extract k (k + 1))) (s.extract k (k + 1)).size = pair39 c) := Lib.hid (by
          rw [hx1, hnb.out]; simp [pairs39, nthU])
        have hform := pair39_form c hlow
        have H4 := Lib.hid h4
        clear h4 hlow
        go_wp2_with fail
        generalize s.extract k (k + 1) = xs at *
        refine (OD39Pairs_any xs _ (by omega) hxa.out).mono ?_
        rintro e w4 ⟨⟨q, rfl, hq⟩, hb4⟩
        rw [hx39.out] at hq
        have hb4w := Below.two hb hb4 hsz
        clear hb hb4 hxa hx39 hnb
        rcases hform with hf | ⟨x, d, hf, hx⟩
        · rw [hf] at hq
          have hq1 : q.size = 1 := len_of_bl hq
          have hpc : Hid (pair93 c = bl q) := Lib.hid (by rw [pair93, if_neg H4.out, hf, hq])
          clear hf hq H4
          go_wp2
          go_roundw
          case rel => exact ⟨k + 1, _, by omega, by go_num, rfl, by rw [ByteArray.size_append']; omega, Lib.hid (by rw [HPS.out, bl_append, hpc.out]), hb4w⟩
          case measure => simp [intOf]; omega
        · rw [hf] at hq
          have hq1 : q.size = 2 := len_of_bl hq
          obtain ⟨hx4, hxs⟩ := four_idx x hx
          have hpc : Hid (pair93 c = [shift93 x, d]) := Lib.hid (by rw [pair93, if_neg H4.out, hf])
          have hq0 : q[0]'(by omega) = x := by rw [bl_get q 0 (by omega), hq]; rfl
          have hx1 : Hid (bl ((⟨#[97, 98, 99, 100]⟩ : ByteArray).extract (idxU (bl fourS) x) (idxU (bl fourS) x + 1)) = [shift93 x]) := Lib.hid (by
            have := bl_extract1 abcdS (idxU (bl fourS) x) _ (by show _ < 4; omega) rfl
            rw [hxs] at this; exact this)
          have hd1 : Hid (bl (q.extract 1 2) = [d]) := Lib.hid (by
            rw [bl_extract1 _ 1 2 (by omega) rfl, hq]; rfl)
          have HX := Lib.hid hx
          clear hf hq H4 hx hxs
          go_wp2_with fail
          refine (odAt_any fourS x HX.out (by decide) _).mono ?_
          rintro e w5 ⟨rfl, rfl⟩
          generalize idxU (bl fourS) x = ix at *
          go_wp2_with fail
          go_region
          go_wp2
          go_roundw
          case rel => exact ⟨k + 1, _, by omega, by go_num, rfl, by rw [ByteArray.size_append', ByteArray.size_append', len_of_bl hx1.out, len_of_bl hd1.out]; show _ + (1 + 1) ≤ _; omega, Lib.hid (by rw [HPS.out, bl_append, bl_append, hx1.out, hd1.out, hpc.out]; rfl), hb4w.drew⟩
          case measure => simp [intOf]; omega
    · have hks : Hid (bl r = pairs93 (bl s) s.size) := Lib.hid (by rw [hr.out, show k = s.size by omega])
      go_wp2
      go_ret
      exact ⟨⟨_, rfl, hks.out⟩, hb⟩
end Go.Proofs.Ytpgddedhhjbgoaa
