/- Walks: spec.OD39Pairs. -/
import Derived.Test.YtpgddedhhjbgoaaPairP
import Derived.Test.YtpgddedhhjbgoaaAscii
namespace Go.Proofs.Ytpgddedhhjbgoaa
open Go.RowKit

theorem size1 (a : UInt8) : (⟨#[a]⟩ : ByteArray).size = 1 := rfl
theorem size2 (a b : UInt8) : (⟨#[a, b]⟩ : ByteArray).size = 2 := rfl
theorem odLetter_d (n : Int) (d : UInt8) (hd : (d.toNat : Int) = 65 + n) (h0 : 0 ≤ n) (h : n < 26) (w : World) :
    Calls Try.prog 26 #[.int .i64 n] w fun e w' => (e = .returned (.string ⟨#[d]⟩)) ∧ Below w.heap.size w w' := by
  refine (odLetter_any n h0 h w).mono fun _ _ ⟨he, hb⟩ => ⟨?_, hb⟩
  rw [he, show 65 + n.toNat = d.toNat by omega]
  simp

set_option maxHeartbeats 4000000 in
set_option maxRecDepth 100000 in
theorem OD39Pairs_any (s : ByteArray) (w : World) (hs : s.size ≤ 100000) (ha : ∀ i, i < s.size → (nthU (bl s) i).toNat < 128) :
    Calls Try.prog 11 #[.string s] w fun e w' => (∃ r : ByteArray, e = .returned (.string r) ∧ bl r = pairs39 (bl s) s.size) ∧ Below w.heap.size w w' := by
  have HA := Lib.hid ha
  clear ha
  go_enter Try.func11, Try.ntmps11
  go_wp2
  go_loopw [3, 4, 5] (fun o i _ wr => ∃ (k : Nat) (r : ByteArray), k ≤ s.size ∧ i = .int .i64 k ∧ o = .string r ∧ r.size ≤ 2 * k ∧ Hid (bl r = pairs39 (bl s) k) ∧ Below w.heap.size w wr) (fun _ i _ _ => s.size - (intOf i).toNat)
  case atStart => exact ⟨0, ⟨#[]⟩, Nat.zero_le _, rfl, rfl, Nat.le_refl _, Lib.hid rfl, Below.refl _ _⟩
  case round =>
    obtain ⟨k, r, hk, rfl, rfl, hrs, hr, hb⟩ := hrel
    by_cases hlt : k < s.size
    · have hbyte := bl_get s k hlt
      have hlow := HA.out k hlt
      have hps := pairs39_succ (bl s) k
      rw [← hr.out] at hps
      have hpl := pair39_length (nthU (bl s) k)
      have hp := pair39_is _ hlow
      have hnb : Hid (bl (s.extract k (k + 1)) = [nthU (bl s) k]) := Lib.hid (bl_extract1 s k (k + 1) hlt rfl)
      generalize nthU (bl s) k = c at *
      generalize pair39 c = P at *
      have HPS := Lib.hid hps
      have hsz := hb.size
      clear hps
      cases hp
      case nul h1 =>
        go_wp2
        go_roundw
        case rel => exact ⟨k + 1, _, by omega, by go_num, rfl, by rw [ByteArray.size_append', size2]; omega, Lib.hid (by rw [HPS.out, bl_append]; rfl), hb⟩
        case measure => simp [intOf]; omega
      case own h1 =>
        rcases h1 with h1 | h1 | h1 | ⟨h1, h2⟩ | ⟨h1, h2⟩
        all_goals
          go_wp2
          go_roundw
          case rel => exact ⟨k + 1, _, by omega, by go_num, rfl, by rw [ByteArray.size_append', ByteArray.size_extract]; omega, Lib.hid (by rw [HPS.out, bl_append, hnb.out]), hb⟩
          case measure => simp [intOf]; omega
      case colon h1 =>
        go_wp2
        go_roundw
        case rel => exact ⟨k + 1, _, by omega, by go_num, rfl, by rw [ByteArray.size_append', size2]; omega, Lib.hid (by rw [HPS.out, bl_append]; rfl), hb⟩
        case measure => simp [intOf]; omega
      case att h1 =>
        go_wp2
        go_roundw
        case rel => exact ⟨k + 1, _, by omega, by go_num, rfl, by rw [ByteArray.size_append', size2]; omega, Lib.hid (by rw [HPS.out, bl_append]; rfl), hb⟩
        case measure => simp [intOf]; omega
      case grave h1 =>
        go_wp2
        go_roundw
        case rel => exact ⟨k + 1, _, by omega, by go_num, rfl, by rw [ByteArray.size_append', size2]; omega, Lib.hid (by rw [HPS.out, bl_append]; rfl), hb⟩
        case measure => simp [intOf]; omega
      case slash d h1 h3 =>
        rcases h1 with ⟨h1, h2⟩ | h1
        all_goals
          have q32 : ((c.toNat : Int) == 32) = false := by rw [beq_eq_false_iff_ne]; omega
          have q45 : ((c.toNat : Int) == 45) = false := by rw [beq_eq_false_iff_ne]; omega
          have q46 : ((c.toNat : Int) == 46) = false := by rw [beq_eq_false_iff_ne]; omega
          have q0 : ((c.toNat : Int) == 0) = false := by rw [beq_eq_false_iff_ne]; omega
          have q58 : ((c.toNat : Int) == 58) = false := by rw [beq_eq_false_iff_ne]; omega
          have q64 : ((c.toNat : Int) == 64) = false := by rw [beq_eq_false_iff_ne]; omega
          have q96 : ((c.toNat : Int) == 96) = false := by rw [beq_eq_false_iff_ne]; omega
          go_wp2_with (go_at_call 26; refine (odLetter_d _ d (by omega) (by omega) (by omega) _).mono ?_; rintro e w1 ⟨rfl, hb1⟩)
          go_roundw
          case rel => exact ⟨k + 1, _, by omega, by go_num, rfl, by rw [ByteArray.size_append', ByteArray.size_append', size1, size1]; omega, Lib.hid (by rw [HPS.out, bl_append, bl_append, List.append_assoc]; rfl), Below.two hb (by assumption) hsz⟩
          case measure => simp [intOf]; omega
      all_goals
        rename_i d h1 h2 h3
        have q32 : ((c.toNat : Int) == 32) = false := by rw [beq_eq_false_iff_ne]; omega
        have q45 : ((c.toNat : Int) == 45) = false := by rw [beq_eq_false_iff_ne]; omega
        have q46 : ((c.toNat : Int) == 46) = false := by rw [beq_eq_false_iff_ne]; omega
        have q0 : ((c.toNat : Int) == 0) = false := by rw [beq_eq_false_iff_ne]; omega
        have q58 : ((c.toNat : Int) == 58) = false := by rw [beq_eq_false_iff_ne]; omega
        have q64 : ((c.toNat : Int) == 64) = false := by rw [beq_eq_false_iff_ne]; omega
        have q96 : ((c.toNat : Int) == 96) = false := by rw [beq_eq_false_iff_ne]; omega
        go_wp2_with (go_at_call 26; refine (odLetter_d _ d (by omega) (by omega) (by omega) _).mono ?_; rintro e w1 ⟨rfl, hb1⟩)
        go_roundw
        case rel => exact ⟨k + 1, _, by omega, by go_num, rfl, by rw [ByteArray.size_append', ByteArray.size_append', size1, size1]; omega, Lib.hid (by rw [HPS.out, bl_append, bl_append, List.append_assoc]; rfl), Below.two hb (by assumption) hsz⟩
        case measure => simp [intOf]; omega
    · have hks : Hid (bl r = pairs39 (bl s) s.size) := Lib.hid (by rw [hr.out, show k = s.size by omega])
      go_wp2
      go_ret
      exact ⟨⟨_, rfl, hks.out⟩, hb⟩
end Go.Proofs.Ytpgddedhhjbgoaa
