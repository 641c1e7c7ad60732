/- Walks: spec.ODDigits, spec.ODCheck, spec.odWidths, spec.odSets, strconv.Itoa. -/
import Derived.Test.YtpgddedhhjbgoaaDoorEanP
import Derived.Test.YtpgddedhhjbgoaaDoorProg
namespace Go.Proofs.YtpgddedhhjbgoaaDoor
open Go.RowKit

instance (s : ByteArray) : Decidable (allDig s) := inferInstanceAs (Decidable (∀ i, i < s.size → isDig (nthU (bl s) i)))

theorem enc_low {c : UInt8} (h : c.toNat < 128) : Utf8.encode (c.toNat : Int) = ⟨#[c]⟩ := by
  unfold Utf8.encode
  have hv : Utf8.valid (c.toNat : Int) = true := by unfold Utf8.valid; simp; omega
  simp only [hv, if_true, Int.toNat_natCast]
  rw [if_pos h]
  simp

set_option maxHeartbeats 1000000 in
set_option maxRecDepth 100000 in
theorem ODDigits_any (s : ByteArray) (many : Nat) (hm : many ≤ 1000) (w : World) :
    Calls Tryd.prog 12 #[.string s, .int .i64 many] w fun e w' => e = .returned (.bool (decide (s.size = many ∧ allDig s))) ∧ w' = w := by
  by_cases hl : s.size = many
  · subst hl
    have HR : Hid (decide (s.size = s.size ∧ allDig s) = decide (allDig s)) := Lib.hid (by simp)
    rw [HR.out]
    have hne : (((s.size : Int) != (s.size : Int))) = false := by simp
    go_enter Tryd.func12, Tryd.ntmps12
    go_wp2
    go_loop [5, 11] (fun _ i => ∃ k : Nat, k ≤ s.size ∧ i = .int .i64 k ∧ Hid (∀ i, i < k → isDig (nthU (bl s) i))) (fun _ i => s.size - (intOf i).toNat)
    case atStart => exact ⟨0, Nat.zero_le _, rfl, Lib.hid (fun i h => absurd h (Nat.not_lt_zero _))⟩
    case round =>
      obtain ⟨k, hk, rfl, hd⟩ := hrel
      by_cases hlt : k < s.size
      · have hbyte := bl_get s k hlt
        by_cases hdig : isDig (nthU (bl s) k)
        · have hd' : Hid (∀ i, i < k + 1 → isDig (nthU (bl s) i)) := Lib.hid (fun i hi => by
            rcases Nat.lt_or_ge i k with h | h
            · exact hd.out i h
            · rw [show i = k by omega]; exact hdig)
          obtain ⟨h1, h2⟩ := hdig
          generalize nthU (bl s) k = c at *
          go_wp2
          go_round
          case rel => exact ⟨k + 1, by omega, by go_num, hd'⟩
          case measure => simp [intOf]; omega
        · have HN : Hid (decide (allDig s) = false) := Lib.hid (decide_eq_false (fun h => hdig (h k hlt)))
          unfold isDig at hdig
          generalize nthU (bl s) k = c at *
          by_cases hc : c.toNat < 48
          all_goals
            go_wp2
            go_ret
            exact ⟨by rw [HN.out]; rfl, rfl⟩
      · have HY : Hid (decide (allDig s) = true) := Lib.hid (decide_eq_true (fun i hi => hd.out i (by omega)))
        go_wp2
        go_ret
        exact ⟨by rw [HY.out]; rfl, rfl⟩
  · have HR : Hid (decide (s.size = many ∧ allDig s) = false) := Lib.hid (decide_eq_false (fun h => hl h.1))
    rw [HR.out]
    have hne : (((s.size : Int) != (many : Int))) = true := by simp; omega
    go_enter Tryd.func12, Tryd.ntmps12
    go_wp2
    go_ret
    exact ⟨rfl, rfl⟩

set_option maxHeartbeats 1000000 in
set_option maxRecDepth 100000 in
theorem ODCheck_any (s : ByteArray) (hs : s.size ≤ 1000) (hd : allDig s) (w : World) :
    Calls Tryd.prog 13 #[.string s] w fun e w' => e = .returned (.string ⟨#[chkB (bl s)]⟩) ∧ w' = w := by
  have HD := Lib.hid hd
  have HD2 : Hid (∀ i, i < (bl s).length → isDig (nthU (bl s) i)) := Lib.hid (by rw [bl_length]; exact hd)
  have HC : Hid (eanChk (bl s) = (10 - eanS (bl s) s.size % 10) % 10) := Lib.hid (by rw [eanChk, bl_length])
  clear hd
  go_enter Tryd.func13, Tryd.ntmps13
  go_wp2
  go_loop [3, 4, 5, 8] (fun t _ _ i => ∃ k : Nat, k ≤ s.size ∧ i = .int .i64 k ∧ t = .int .i64 (eanS (bl s) k : Int)) (fun _ _ _ i => s.size - (intOf i).toNat)
  case atStart => exact ⟨0, Nat.zero_le _, rfl, rfl⟩
  case round =>
    obtain ⟨k, hk, rfl, rfl⟩ := hrel
    have hsl := eanS_le (bl s) k HD2.out (by rw [bl_length]; exact hk)
    have hsl2 : eanS (bl s) k ≤ 27000 := by omega
    clear hsl
    by_cases hlt : k < s.size
    · have hks : s.size - 1 - k < s.size := by omega
      have hbyte := bl_get s (s.size - 1 - k) hks
      have hdig := HD.out _ hks
      have hss := eanS_succ (bl s) k
      rw [bl_length] at hss
      have HSS := Lib.hid hss
      clear hss
      have htn : ((s.size : Int) - 1 - k).toNat = s.size - 1 - k := by omega
      obtain ⟨h1, h2⟩ := hdig
      generalize nthU (bl s) (s.size - 1 - k) = c at *
      have hdg : Hid (dig c + 48 = c.toNat) := Lib.hid (by unfold dig; omega)
      generalize eanS (bl s) k = T at *
      rcases Nat.mod_two_eq_zero_or_one k with hp | hp
      · rw [if_pos hp] at HSS
        have hpi : (k : Int) % 2 = 0 := by omega
        clear hp
        go_wp2
        go_round
        case rel => exact ⟨k + 1, by omega, by go_num, by rw [HSS.out]; have := hdg.out; go_num⟩
        case measure => simp [intOf]; omega
      · rw [if_neg (by omega)] at HSS
        have hpi : (k : Int) % 2 = 1 := by omega
        clear hp
        go_wp2
        go_round
        case rel => exact ⟨k + 1, by omega, by go_num, by rw [HSS.out]; have := hdg.out; go_num⟩
        case measure => simp [intOf]; omega
    · have hk' : k = s.size := by omega
      rw [hk']
      rw [hk'] at hsl2
      have henc := enc_low (c := chkB (bl s)) (by rw [chkB_toNat]; have := eanChk_lt (bl s); omega)
      rw [chkB_toNat, HC.out] at henc
      clear hk'
      generalize eanS (bl s) s.size = T at *
      have hcast : ((48 + (10 - T % 10) % 10 : Nat) : Int) = 48 + -((T : Int) % 10) % 10 := by omega
      rw [hcast] at henc
      clear hcast
      go_wp2
      go_ret
      exact ⟨rfl, rfl⟩

def widT : List ByteArray := [⟨#[51, 50, 49, 49]⟩, ⟨#[50, 50, 50, 49]⟩, ⟨#[50, 49, 50, 50]⟩, ⟨#[49, 52, 49, 49]⟩, ⟨#[49, 49, 51, 50]⟩, ⟨#[49, 50, 51, 49]⟩, ⟨#[49, 49, 49, 52]⟩, ⟨#[49, 51, 49, 50]⟩, ⟨#[49, 50, 49, 51]⟩, ⟨#[51, 49, 49, 50]⟩]
theorem str_get (tbl : List ByteArray) (n : Nat) (h : n < tbl.length) : (tbl.map Value.string)[n]'(by simpa using h) = .string (tbl.getD n ⟨#[]⟩) := by
  simp [List.getD, h]
theorem widT_bl : ∀ d, d < 10 → bl (widT.getD d ⟨#[]⟩) = (nthL eanW d).map (fun n => UInt8.ofNat (48 + n)) := by decide

set_option maxHeartbeats 1000000 in
set_option maxRecDepth 100000 in
theorem odWidths_any (c : UInt8) (h : isDig c) (w : World) :
    Calls Tryd.prog 24 #[.int .u8 (c.toNat : Int)] w fun e w' => (∃ r : ByteArray, e = .returned (.string r) ∧ bl r = (eanEl c).map (fun n => UInt8.ofNat (48 + n))) ∧ Below w.heap.size w w' := by
  obtain ⟨h1, h2⟩ := h
  obtain ⟨d, hd⟩ : ∃ d, c.toNat = 48 + d := ⟨c.toNat - 48, by omega⟩
  have hd10 : d < 10 := by omega
  have HB : Hid (bl (widT.getD d ⟨#[]⟩) = (eanEl c).map (fun n => UInt8.ofNat (48 + n))) := Lib.hid (by
    rw [widT_bl d hd10, eanEl, show c.toNat - 48 = d by omega])
  rw [hd]
  clear hd h1 h2
  go_enter Tryd.func24, Tryd.ntmps24
  go_wp2
  go_ret
  exact ⟨⟨_, congrArg Ending.returned (str_get widT d hd10), HB.out⟩, below_alloc _ _⟩
end Go.Proofs.YtpgddedhhjbgoaaDoor
