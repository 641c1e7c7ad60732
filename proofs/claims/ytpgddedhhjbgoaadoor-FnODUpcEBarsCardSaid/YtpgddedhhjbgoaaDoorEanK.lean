/- Walks: the checksums of EAN, and strconv.Itoa of one digit. -/
import Derived.Test.YtpgddedhhjbgoaaDoorEanC
import Derived.Test.YtpgddedhhjbgoaaDoorEanX
namespace Go.Proofs.YtpgddedhhjbgoaaDoor
open Go.RowKit

theorem sumA_le' (ds : List UInt8) (o k : Nat) : sumA ds o k ≤ 255 * k := by
  induction k with
  | zero => simp [sumA]
  | succ k ih =>
    rw [sumA_succ]
    have h2 : dig (nthU ds (ds.length - o - 2 * k)) ≤ 255 := by
      have := (nthU ds (ds.length - o - 2 * k)).toNat_lt
      unfold dig; omega
    omega
/-- The digits that both loops have seen are all of them. -/
theorem seen_all (s : ByteArray) (h1 : ∀ i, i < (s.size + 1) / 2 → isDig (nthU (bl s) (s.size - 1 - 2 * i))) (h2 : ∀ i, i < s.size / 2 → isDig (nthU (bl s) (s.size - 2 - 2 * i))) : allDig s := by
  intro j hj
  obtain ⟨q, hq⟩ : ∃ q, s.size - 1 - j = 2 * q ∨ s.size - 1 - j = 2 * q + 1 := ⟨(s.size - 1 - j) / 2, by omega⟩
  rcases hq with hq | hq
  · have := h1 q (by omega); rw [show s.size - 1 - 2 * q = j by omega] at this; exact this
  · have := h2 q (by omega); rw [show s.size - 2 - 2 * q = j by omega] at this; exact this

set_option maxHeartbeats 4000000 in
set_option maxRecDepth 100000 in
theorem getChk_any (s : ByteArray) (hs : s.size ≤ 20) (w : World) :
    Calls Tryd.prog 30 #[.string s] w fun e w' =>
      ((allDig s ∧ e = .returned (.tuple #[.int .i64 (eanChk (bl s) : Int), .nilIface])) ∨
        (¬ allDig s ∧ e = .returned (.tuple #[.int .i64 0, .iface 74 (.agg #[.string ⟨#[70, 111, 114, 109, 97, 116, 69, 120, 99, 101, 112, 116, 105, 111, 110]⟩, .nilIface])]))) ∧ Below w.heap.size w w' := by
  have hbl := bl_length s
  have HFIN : Hid (allDig s → eanChk (bl s) = (1000 - (3 * sumA (bl s) 1 ((s.size + 1) / 2) + sumA (bl s) 2 (s.size / 2))) % 10 ∧ 3 * sumA (bl s) 1 ((s.size + 1) / 2) + sumA (bl s) 2 (s.size / 2) ≤ 1000) := Lib.hid (fun hd => by
    have h1 := eanS_le (bl s) s.size (by rw [hbl]; exact hd) (by rw [hbl]; exact Nat.le_refl _)
    have h2 := eanS_sums (bl s) s.size
    have h3 := eanChk_impl (bl s) (by rw [hbl]; omega)
    rw [hbl] at h3
    exact ⟨h3, by omega⟩)
  have HS1 : Hid (∀ k, sumA (bl s) 1 (k + 1) = sumA (bl s) 1 k + dig (nthU (bl s) (s.size - 1 - 2 * k))) := Lib.hid (fun k => by rw [sumA_succ, hbl])
  have HS2 : Hid (∀ k, sumA (bl s) 2 (k + 1) = sumA (bl s) 2 k + dig (nthU (bl s) (s.size - 2 - 2 * k))) := Lib.hid (fun k => by rw [sumA_succ, hbl])
  clear hbl
  go_enter Tryd.func30, Tryd.ntmps30
  go_wp2
  go_loop [5, 6, 7] (fun t i _ => ∃ k : Nat, 2 * k ≤ s.size + 1 ∧ i = .int .i64 ((s.size : Int) - 1 - 2 * k) ∧ t = .int .i64 (sumA (bl s) 1 k : Int) ∧ Hid (∀ i, i < k → isDig (nthU (bl s) (s.size - 1 - 2 * i)))) (fun _ i _ => (intOf i + 2).toNat)
  case atStart => exact ⟨0, by omega, by simp, rfl, Lib.hid (fun i h => absurd h (Nat.not_lt_zero _))⟩
  case round =>
    obtain ⟨k, hk, rfl, rfl, hseen⟩ := hrel
    have hsl := sumA_le' (bl s) 1 k
    have hsl2 : sumA (bl s) 1 k ≤ 5000 := by omega
    clear hsl
    by_cases hlt : 2 * k < s.size
    · have hks : s.size - 1 - 2 * k < s.size := by omega
      have hbyte := bl_get s (s.size - 1 - 2 * k) hks
      have htn : ((s.size : Int) - 1 - 2 * (k : Int)).toNat = s.size - 1 - 2 * k := by omega
      have hss := Lib.hid (HS1.out k)
      have hi0 : (0 : Int) ≤ (s.size : Int) - 1 - 2 * (k : Int) := by omega
      by_cases hdig : isDig (nthU (bl s) (s.size - 1 - 2 * k))
      · have hd' : Hid (∀ i, i < k + 1 → isDig (nthU (bl s) (s.size - 1 - 2 * i))) := Lib.hid (fun i hi => by
          rcases Nat.lt_or_ge i k with h | h
          · exact hseen.out i h
          · rw [show i = k by omega]; exact hdig)
        obtain ⟨h1, h2⟩ := hdig
        generalize nthU (bl s) (s.size - 1 - 2 * k) = c at *
        have hdg : Hid (dig c + 48 = c.toNat) := Lib.hid (by unfold dig; omega)
        generalize sumA (bl s) 1 k = T at *
        go_wp2
        go_round
        case rel => exact ⟨k + 1, by omega, by go_num, by rw [hss.out]; have := hdg.out; go_num, hd'⟩
        case measure => simp [intOf]; omega
      · have HN : Hid (¬ allDig s) := Lib.hid (fun h => hdig (h _ hks))
        unfold isDig at hdig
        generalize nthU (bl s) (s.size - 1 - 2 * k) = c at *
        have hc255 : c.toNat ≤ 255 := by have := c.toNat_lt; omega
        by_cases hc : c.toNat < 48
        all_goals
          go_wp2_with (go_at_call 44; refine (NewFormatException_any _ _).mono ?_; rintro e w1 ⟨rfl, hb1⟩)
          go_ret2
          exact ⟨.inr ⟨HN.out, rfl⟩, Below.trans (by go_grown) (hb1.mono (by simp <;> omega))⟩
    · have hk1 : k = (s.size + 1) / 2 := by omega
      have hneg : (s.size : Int) - 1 - 2 * (k : Int) < 0 := by omega
      have hseen1 : Hid (∀ i, i < (s.size + 1) / 2 → isDig (nthU (bl s) (s.size - 1 - 2 * i))) := Lib.hid (by rw [← hk1]; exact hseen.out)
      have hsum : Hid (sumA (bl s) 1 k = sumA (bl s) 1 ((s.size + 1) / 2)) := Lib.hid (by rw [hk1])
      generalize sumA (bl s) 1 k = SA at *
      clear hk1 hseen
      go_wp2
      go_loop [5, 8, 9] (fun t i _ => ∃ k : Nat, 2 * k ≤ s.size ∧ i = .int .i64 ((s.size : Int) - 2 - 2 * k) ∧ t = .int .i64 (((3 * SA + sumA (bl s) 2 k : Nat)) : Int) ∧ Hid (∀ i, i < k → isDig (nthU (bl s) (s.size - 2 - 2 * i)))) (fun _ i _ => (intOf i + 2).toNat)
      case atStart => exact ⟨0, by omega, by simp, by simp [sumA]; omega, Lib.hid (fun i h => absurd h (Nat.not_lt_zero _))⟩
      case round =>
        obtain ⟨k, hk, rfl, rfl, hseen⟩ := hrel
        have hsl := sumA_le' (bl s) 2 k
        have hsl2 : sumA (bl s) 2 k ≤ 5000 := by omega
        clear hsl
        by_cases hlt : 2 * k + 1 < s.size
        · have hks : s.size - 2 - 2 * k < s.size := by omega
          have hbyte := bl_get s (s.size - 2 - 2 * k) hks
          have htn : ((s.size : Int) - 2 - 2 * (k : Int)).toNat = s.size - 2 - 2 * k := by omega
          have hss := Lib.hid (HS2.out k)
          have hi0 : (0 : Int) ≤ (s.size : Int) - 2 - 2 * (k : Int) := by omega
          by_cases hdig : isDig (nthU (bl s) (s.size - 2 - 2 * k))
          · have hd' : Hid (∀ i, i < k + 1 → isDig (nthU (bl s) (s.size - 2 - 2 * i))) := Lib.hid (fun i hi => by
              rcases Nat.lt_or_ge i k with h | h
              · exact hseen.out i h
              · rw [show i = k by omega]; exact hdig)
            obtain ⟨h1, h2⟩ := hdig
            generalize nthU (bl s) (s.size - 2 - 2 * k) = c at *
            have hdg : Hid (dig c + 48 = c.toNat) := Lib.hid (by unfold dig; omega)
            generalize sumA (bl s) 2 k = T at *
            go_wp2
            go_round
            case rel => exact ⟨k + 1, by omega, by go_num, by rw [hss.out]; have := hdg.out; go_num, hd'⟩
            case measure => simp [intOf]; omega
          · have HN : Hid (¬ allDig s) := Lib.hid (fun h => hdig (h _ hks))
            unfold isDig at hdig
            generalize nthU (bl s) (s.size - 2 - 2 * k) = c at *
            have hc255 : c.toNat ≤ 255 := by have := c.toNat_lt; omega
            by_cases hc : c.toNat < 48
            all_goals
              go_wp2_with (go_at_call 44; refine (NewFormatException_any _ _).mono ?_; rintro e w1 ⟨rfl, hb1⟩)
              go_ret2
              exact ⟨.inr ⟨HN.out, rfl⟩, Below.trans (by go_grown) (hb1.mono (by simp <;> omega))⟩
        · have hk1 : k = s.size / 2 := by omega
          have hneg2 : (s.size : Int) - 2 - 2 * (k : Int) < 0 := by omega
          have HALL : Hid (allDig s) := Lib.hid (seen_all s hseen1.out (by rw [← hk1]; exact hseen.out))
          obtain ⟨hf1, hf2⟩ := HFIN.out HALL.out
          rw [← hsum.out, ← hk1] at hf1 hf2
          generalize sumA (bl s) 2 k = T at *
          have HF1 : Hid (((eanChk (bl s) : Nat) : Int) = (1000 - (((3 * SA + T : Nat)) : Int)) % 10) := Lib.hid (by rw [hf1]; omega)
          clear hf1 hk1 hseen
          go_wp2
          go_ret2
          exact ⟨.inl ⟨HALL.out, by rw [HF1.out]; simp⟩, Below.refl _ _⟩

set_option maxHeartbeats 1000000 in
set_option maxRecDepth 100000 in
theorem itoa_digit (n : Nat) (h : n < 10) (w : World) :
    Calls Tryd.prog 32 #[.int .i64 n] w fun e w' => e = .returned (.string ⟨#[UInt8.ofNat (48 + n)]⟩) ∧ w' = w := by
  have hx : (⟨#[48, 49, 50, 51, 52, 53, 54, 55, 56, 57, 97, 98, 99, 100, 101, 102, 103, 104, 105, 106, 107, 108, 109, 110, 111, 112, 113, 114, 115, 116, 117, 118, 119, 120, 121, 122]⟩ : ByteArray).extract n (n + 1) = ⟨#[UInt8.ofNat (48 + n)]⟩ := by
    have : ∀ n, n < 10 → (⟨#[48, 49, 50, 51, 52, 53, 54, 55, 56, 57, 97, 98, 99, 100, 101, 102, 103, 104, 105, 106, 107, 108, 109, 110, 111, 112, 113, 114, 115, 116, 117, 118, 119, 120, 121, 122]⟩ : ByteArray).extract n (n + 1) = ⟨#[UInt8.ofNat (48 + n)]⟩ := by decide
    exact this n h
  go_enter Tryd.func32, Tryd.ntmps32
  go_wp2_with (go_in)
  go_ret
  exact ⟨rfl, rfl⟩
end Go.Proofs.YtpgddedhhjbgoaaDoor
