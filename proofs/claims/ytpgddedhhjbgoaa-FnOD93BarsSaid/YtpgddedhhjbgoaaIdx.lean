/- Walks: oned.zzIndex at one byte. -/
import Derived.Test.YtpgddedhhjbgoaaBarP
import Derived.Test.YtpgddedhhjbgoaaProg
namespace Go.Proofs.Ytpgddedhhjbgoaa
open Go.RowKit

theorem one_extract (s : ByteArray) (k : Nat) (c : UInt8) (hk : k < s.size) : ((s.extract k (k + 1)).toList == [c]) = (nthU (bl s) k == c) := by
  rw [ByteArray.toList_eq]
  show (bl (s.extract k (k + 1)) == [c]) = _
  rw [bl_extract1 s k (k + 1) hk rfl]
  by_cases h : nthU (bl s) k = c <;> simp [h]

/-- Where a byte stands; -1: nowhere. -/
def zzIdx (l : List UInt8) (c : UInt8) : Int := if c ∈ l then (idxU l c : Int) else -1

set_option maxHeartbeats 1000000 in
set_option maxRecDepth 100000 in
theorem zzIndex_any (s : ByteArray) (c : UInt8) (hs : s.size ≤ 1000000) (w : World) :
    Calls Try.prog 41 #[.string s, .string ⟨#[c]⟩] w fun e w' => e = .returned (.int .i64 (zzIdx (bl s) c)) ∧ w' = w := by
  by_cases h : c ∈ bl s
  · have hlt := idxU_lt h
    rw [bl_length] at hlt
    have HR : Hid (zzIdx (bl s) c = (idxU (bl s) c : Int)) := Lib.hid (by rw [zzIdx, if_pos h])
    have HG := Lib.hid (idxU_get h)
    have HM : Hid (∀ k, k < idxU (bl s) c → nthU (bl s) k ≠ c) := Lib.hid (fun k hk => idxU_min hk)
    clear h
    generalize zzIdx (bl s) c = res at *
    generalize idxU (bl s) c = x at *
    go_enter Try.func41, Try.ntmps41
    go_wp2
    go_loop [5] (fun i => ∃ k : Nat, k ≤ x ∧ i = .int .i64 k) (fun i => s.size - (intOf i).toNat)
    case atStart => exact ⟨0, Nat.zero_le _, rfl⟩
    case round =>
      obtain ⟨k, hk, rfl⟩ := hrel
      have hks : k < s.size := by omega
      have hone := one_extract s k c hks
      by_cases hx : k = x
      · have hg : nthU (bl s) k = c := by rw [hx]; exact HG.out
        rw [hg, beq_self_eq_true] at hone
        have HX := Lib.hid hx
        clear hx hg
        go_wp2
        go_ret
        exact ⟨by rw [HR.out, ← HX.out]; rfl, rfl⟩
      · have hn := HM.out k (by omega)
        rw [beq_eq_false_iff_ne.2 hn] at hone
        clear hn
        go_wp2
        go_round
        case rel => exact ⟨k + 1, by omega, by go_num⟩
        case measure => simp [intOf]; omega
  · have HR : Hid (zzIdx (bl s) c = -1) := Lib.hid (by rw [zzIdx, if_neg h])
    have HM : Hid (∀ k, k < s.size → nthU (bl s) k ≠ c) := Lib.hid (fun k hk e => h (by
      have hk' : k < (bl s).length := by rw [bl_length]; exact hk
      rw [← e, nthU_eq hk']; exact List.getElem_mem hk'))
    clear h
    generalize zzIdx (bl s) c = res at *
    go_enter Try.func41, Try.ntmps41
    go_wp2
    go_loop [5] (fun i => ∃ k : Nat, k ≤ s.size ∧ i = .int .i64 k) (fun i => s.size - (intOf i).toNat)
    case atStart => exact ⟨0, Nat.zero_le _, rfl⟩
    case round =>
      obtain ⟨k, hk, rfl⟩ := hrel
      by_cases hks : k < s.size
      · have hone := one_extract s k c hks
        have hn := HM.out k hks
        rw [beq_eq_false_iff_ne.2 hn] at hone
        clear hn
        go_wp2
        go_round
        case rel => exact ⟨k + 1, by omega, by go_num⟩
        case measure => simp [intOf]; omega
      · go_wp2
        go_ret
        exact ⟨by rw [HR.out]; rfl, rfl⟩
end Go.Proofs.Ytpgddedhhjbgoaa
