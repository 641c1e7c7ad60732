/- Walks: small functions of the Codabar writer, spec.odAt. -/
import Derived.Test.YtkpdiidmedfbgaaBarP
import Derived.Test.YtkpdiidmedfbgaaProg
namespace Go.Proofs.Ytkpdiidmedfbgaa
open Go.RowKit

set_option maxHeartbeats 1000000 in
set_option maxRecDepth 100000 in
theorem odAt_any (s : ByteArray) (c : UInt8) (h : c ∈ bl s) (hs : s.size ≤ 1000000) (w : World) :
    Calls Try.prog 36 #[.string s, .int .u8 (c.toNat : Int)] w fun e w' => e = .returned (.int .i64 (idxU (bl s) c : Int)) ∧ w' = w := by
  have hlt := idxU_lt h
  rw [bl_length] at hlt
  have HG := Lib.hid (idxU_get h)
  have HM : Hid (∀ k, k < idxU (bl s) c → nthU (bl s) k ≠ c) := Lib.hid (fun k hk => idxU_min hk)
  clear h
  generalize idxU (bl s) c = x at *
  go_enter Try.func36, Try.ntmps36
  go_wp2
  go_loop [5] (fun i => ∃ k : Nat, k ≤ x ∧ i = .int .i64 k) (fun i => s.size - (intOf i).toNat)
  case atStart => exact ⟨0, Nat.zero_le _, rfl⟩
  case round =>
    obtain ⟨k, hk, rfl⟩ := hrel
    have hks : k < s.size := by omega
    have hb := bl_get s k hks
    by_cases hx : k = x
    · have hg : nthU (bl s) k = c := by rw [hx]; exact HG.out
      rw [hg] at hb
      have HX := Lib.hid hx
      clear hx hg
      go_wp2
      go_ret
      exact ⟨by rw [← HX.out]; rfl, rfl⟩
    · have hn := HM.out k (by omega)
      generalize nthU (bl s) k = y at *
      have hne : ((y.toNat : Int) == (c.toNat : Int)) = false := by
        rw [beq_eq_false_iff_ne]; intro e; exact hn (UInt8.toNat.inj (by omega))
      clear hn
      go_wp2
      go_round
      case rel => exact ⟨k + 1, by omega, by go_num⟩
      case measure => simp [intOf]; omega

set_option maxHeartbeats 1000000 in
set_option maxRecDepth 100000 in
theorem arrayContains_yes (xs : List UInt8) (c : UInt8) (h : c ∈ xs) (v : Value) (hl : xs.length ≤ 1000000) (w : World) (h1 : SlAt w v (xs.map B8)) :
    Calls Try.prog 64 #[v, .int .u8 (c.toNat : Int)] w fun e w' => e = .returned (.bool true) ∧ w' = w := by
  have hlt := idxU_lt h
  have HG := Lib.hid (idxU_get h)
  have HM : Hid (∀ k, k < idxU xs c → nthU xs k ≠ c) := Lib.hid (fun k hk => idxU_min hk)
  clear h
  generalize idxU xs c = x at *
  obtain ⟨a1, c1, rfl, hm1⟩ := h1.form
  simp only [List.length_map] at hm1 ⊢
  have H1 := Lib.hid h1
  clear h1
  go_enter Try.func64, Try.ntmps64
  go_wp2
  go_loop [6, 9] (fun _ i => ∃ k : Nat, k ≤ x ∧ i = .int .i64 k) (fun _ i => xs.length - (intOf i).toNat)
  case atStart => exact ⟨0, Nat.zero_le _, rfl⟩
  case round =>
    obtain ⟨k, hk, rfl⟩ := hrel
    have hks : k < xs.length := by omega
    obtain ⟨b, o, rfl, hc⟩ := H1.out.getU k hks
    by_cases hx : k = x
    · rw [hx, HG.out] at hc
      subst hx
      go_wp2
      go_ret
      exact ⟨rfl, rfl⟩
    · have hn := HM.out k (by omega)
      generalize nthU xs k = y at *
      have hne : ((y.toNat : Int) == (c.toNat : Int)) = false := by
        rw [beq_eq_false_iff_ne]; intro e; exact hn (UInt8.toNat.inj (by omega))
      clear hn
      go_wp2
      go_round
      case rel => exact ⟨k + 1, by omega, by go_num⟩
      case measure => simp [intOf]; omega

set_option maxHeartbeats 1000000 in
set_option maxRecDepth 100000 in
theorem arrayContains_no (xs : List UInt8) (c : UInt8) (h : c ∉ xs) (v : Value) (hl : xs.length ≤ 1000000) (w : World) (h1 : SlAt w v (xs.map B8)) :
    Calls Try.prog 64 #[v, .int .u8 (c.toNat : Int)] w fun e w' => e = .returned (.bool false) ∧ w' = w := by
  have HM : Hid (∀ k, k < xs.length → nthU xs k ≠ c) := Lib.hid (fun k hk e => h (by rw [← e, nthU_eq hk]; exact List.getElem_mem hk))
  clear h
  obtain ⟨a1, c1, rfl, hm1⟩ := h1.form
  simp only [List.length_map] at hm1 ⊢
  have H1 := Lib.hid h1
  clear h1
  go_enter Try.func64, Try.ntmps64
  go_wp2
  go_loop [6, 9] (fun _ i => ∃ k : Nat, k ≤ xs.length ∧ i = .int .i64 k) (fun _ i => xs.length - (intOf i).toNat)
  case atStart => exact ⟨0, Nat.zero_le _, rfl⟩
  case round =>
    obtain ⟨k, hk, rfl⟩ := hrel
    by_cases hks : k < xs.length
    · obtain ⟨b, o, rfl, hc⟩ := H1.out.getU k hks
      have hn := HM.out k hks
      generalize nthU xs k = y at *
      have hne : ((y.toNat : Int) == (c.toNat : Int)) = false := by
        rw [beq_eq_false_iff_ne]; intro e; exact hn (UInt8.toNat.inj (by omega))
      clear hn
      go_wp2
      go_round
      case rel => exact ⟨k + 1, by omega, by go_num⟩
      case measure => simp [intOf]; omega
    · go_wp2
      go_ret
      exact ⟨rfl, rfl⟩

set_option maxHeartbeats 1000000 in
set_option maxRecDepth 100000 in
theorem upper_any (c : UInt8) (h : c.toNat < 97) (w : World) :
    Calls Try.prog 63 #[.int .u8 (c.toNat : Int)] w fun e w' => e = .returned (.int .u8 (c.toNat : Int)) ∧ w' = w := by
  go_enter Try.func63, Try.ntmps63
  go_wp2
  go_ret
  exact ⟨rfl, rfl⟩

set_option maxHeartbeats 1000000 in
set_option maxRecDepth 100000 in
theorem startEnd_any (w : World) :
    Calls Try.prog 65 #[] w fun e w' => (∃ v, e = .returned v ∧ SlAt w' v (([65, 66, 67, 68] : List UInt8).map B8)) ∧ Below w.heap.size w w' := by
  go_enter Try.func65, Try.ntmps65
  go_wp2
  go_ret
  exact ⟨⟨_, rfl, SlAt.of_own (own_lit w 5 (([65, 66, 67, 68] : List UInt8).map B8) (by decide))⟩, below_alloc _ _⟩
theorem altStartEnd_any (w : World) :
    Calls Try.prog 66 #[] w fun e w' => (∃ v, e = .returned v ∧ SlAt w' v (([84, 78, 42, 69] : List UInt8).map B8)) ∧ Below w.heap.size w w' := by
  go_enter Try.func66, Try.ntmps66
  go_wp2
  go_ret
  exact ⟨⟨_, rfl, SlAt.of_own (own_lit w 5 (([84, 78, 42, 69] : List UInt8).map B8) (by decide))⟩, below_alloc _ _⟩
theorem tenLength_any (w : World) :
    Calls Try.prog 67 #[] w fun e w' => (∃ v, e = .returned v ∧ SlAt w' v (([47, 58, 43, 46] : List UInt8).map B8)) ∧ Below w.heap.size w w' := by
  go_enter Try.func67, Try.ntmps67
  go_wp2
  go_ret
  exact ⟨⟨_, rfl, SlAt.of_own (own_lit w 5 (([47, 58, 43, 46] : List UInt8).map B8) (by decide))⟩, below_alloc _ _⟩
theorem barEnc_any (w : World) :
    Calls Try.prog 68 #[] w fun e w' => (∃ a c, e = .returned (.slice a 20 c) ∧ SlAt w' (.slice a 20 c) (barBitsT.map I64)) ∧ Below w.heap.size w w' := by
  go_enter Try.func68, Try.ntmps68
  go_wp2
  go_ret
  exact ⟨⟨_, _, rfl, SlAt.of_own (own_lit w 3 (barBitsT.map I64) (by decide))⟩, below_alloc _ _⟩
end Go.Proofs.Ytkpdiidmedfbgaa
