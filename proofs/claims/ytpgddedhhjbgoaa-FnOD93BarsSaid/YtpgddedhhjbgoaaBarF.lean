/- Walks: small functions of the Codabar writer, spec.odAt. -/
import Derived.Test.YtpgddedhhjbgoaaBarP
import Derived.Test.YtpgddedhhjbgoaaProg
namespace Go.Proofs.Ytpgddedhhjbgoaa
open Go.RowKit

set_option maxHeartbeats 1000000 in
set_option maxRecDepth 100000 in
theorem odAt_any (s : ByteArray) (c : UInt8) (h : c ∈ bl s) (hs : s.size ≤ 1000000) (w : World) :
    Calls Try.prog 22 #[.string s, .int .u8 (c.toNat : Int)] w fun e w' => e = .returned (.int .i64 (idxU (bl s) c : Int)) ∧ w' = w := by
  have hlt := idxU_lt h
  rw [bl_length] at hlt
  have HG := Lib.hid (idxU_get h)
  have HM : Hid (∀ k, k < idxU (bl s) c → nthU (bl s) k ≠ c) := Lib.hid (fun k hk => idxU_min hk)
  clear h
  generalize idxU (bl s) c = x at *
  go_enter Try.func22, Try.ntmps22
  go_wp2
  go_loop [5] (fun i => ∃ k : Nat, k ≤ x ∧ i = .int .i64 k) (fun i => s.size - (intOf i).toNat)
  case atStart => exact ⟨0, Nat.zero_le _, rfl⟩
  case round =>
    obtain ⟨k, hk, rfl⟩ := hrel
    have hks : k < s.size := by omega
    have hb := bl_get s k hks
    by_cases hx : k = x
    · have hg : nthU (bl s) k = c := by rw [hx]; exact HG.out
      rw [hg] at hb
      have HX := Lib.hid hx
      clear hx hg
      go_wp2
      go_ret
      exact ⟨by rw [← HX.out]; rfl, rfl⟩
    · have hn := HM.out k (by omega)
      generalize nthU (bl s) k = y at *
      have hne : ((y.toNat : Int) == (c.toNat : Int)) = false := by
        rw [beq_eq_false_iff_ne]; intro e; exact hn (UInt8.toNat.inj (by omega))
      clear hn
      go_wp2
      go_round
      case rel => exact ⟨k + 1, by omega, by go_num⟩
      case measure => simp [intOf]; omega

end Go.Proofs.Ytpgddedhhjbgoaa
