/- Walks: small functions of the Code 93 writer. -/
import Derived.Test.Ytpgddedhhjbgoaa93P
import Derived.Test.Ytpgddedhhjbgoaa39F
namespace Go.Proofs.Ytpgddedhhjbgoaa
open Go.RowKit

theorem enc93_byte {c : UInt8} (h : c.toNat < 128) : Utf8.encode (c.toNat : Int) = ⟨#[c]⟩ := by
  unfold Utf8.encode
  have hv : Utf8.valid (c.toNat : Int) = true := by unfold Utf8.valid; simp; omega
  simp only [hv, if_true, Int.toNat_natCast]
  rw [if_pos h]
  simp

theorem enc93_any (w : World) :
    Calls Try.prog 48 #[] w fun e w' => (∃ a c, e = .returned (.slice a 48 c) ∧ SlAt w' (.slice a 48 c) (bits93T.map I64)) ∧ Below w.heap.size w w' := by
  go_enter Try.func48, Try.ntmps48
  go_wp2
  go_ret
  exact ⟨⟨_, _, rfl, SlAt.of_own (own_lit w 3 (bits93T.map I64) (by decide))⟩, below_alloc _ _⟩

theorem bit9_ne (a k : Nat) (ha : a ≤ 1000) (hk : k < 9) : (bits .and .i64 (a : Int) (wrap64 (2 ^ (8 - k))) != 0) = bit9 a k := by
  unfold bit9
  by_cases h : (a >>> (8 - k)) % 2 = 1
  · rw [bne, pow_no a (8 - k) (by omega) (by omega) h]; simp [h]
  · rw [bne, pow_yes a (8 - k) (by omega) (by omega) h]; simp [h]

set_option maxHeartbeats 1000000 in
set_option maxRecDepth 100000 in
theorem append93_any (g n cap base : Nat) (M : List Bool) (a : Nat) (p : Int) (ha : a ≤ 1000) (w : World) (hown : w.ownsRow base 4 1 (.slice (some ⟨g, 0, none⟩) n cap) n (fillB n M))
    (hp : p = (M.length : Int)) (hfit : M.length + 9 ≤ n) (hn : n ≤ 100000000) :
    Calls Try.prog 47 #[.slice (some ⟨g, 0, none⟩) n cap, .int .i64 p, .int .i64 a] w fun e w' =>
      e = .returned (.int .i64 9) ∧ w'.ownsRow base 4 1 (.slice (some ⟨g, 0, none⟩) n cap) n (fillB n (M ++ bits9 a)) ∧ w.grownBy w' (some g) := by
  subst hp
  go_enter Try.func47, Try.ntmps47
  go_wp2
  go_loopw [7, 8] (fun i _ wr => ∃ k : Nat, k ≤ 9 ∧ i = .int .i64 k ∧ wr.ownsRow base 4 1 (.slice (some ⟨g, 0, none⟩) n cap) n (fillB n (M ++ bits9k a k)) ∧ w.grownBy wr (some g)) (fun i _ _ => 9 - (intOf i).toNat)
  case atStart => exact ⟨0, Nat.zero_le _, rfl, by simpa [bits9k] using hown, World.grownBy.refl _ _⟩
  case round =>
    clear hown
    obtain ⟨k, hk, rfl, hown, hg⟩ := hrel
    by_cases hlt : k < 9
    · have hYl : (M ++ bits9k a k).length = M.length + k := by rw [List.length_append, bits9k_length]
      have hYs : Hid (M ++ bits9k a k ++ [bit9 a k] = M ++ bits9k a (k + 1)) := Lib.hid (by rw [bits9k_succ, List.append_assoc])
      generalize hY : M ++ bits9k a k = Y at *
      clear hY
      have hc := hown.cellAt Y.length (by omega)
      rw [fillB_get _ _ (by omega)] at hc
      have hf := hown.frozenAt Y.length
      have st := hown.stored Y.length (.bool (bit9 a k))
      rw [fillB_set _ _ _ (by omega), hYs.out] at st
      have hg2 := grown_trans hg st.2
      have hown2 := st.1
      have hbit := Lib.hid (bit9_ne a k ha hlt)
      have hyy : (M.length : Int) + (k : Int) = (Y.length : Int) := by omega
      clear st hown hg hYs
      generalize bit9 a k = B at *
      rw [hYl] at hc hf hown2 hg2
      clear hYl hyy
      go_wp2
      go_roundw
      case rel => exact ⟨k + 1, by omega, by go_num, by rw [hbit.out]; exact hown2, by rw [hbit.out]; exact hg2⟩
      case measure => simp [intOf]; omega
    · have hk9 : k = 9 := by omega
      rw [hk9, bits9k_full] at hown
      clear hk9
      go_wp2
      go_ret
      exact ⟨rfl, hown, hg⟩

set_option maxHeartbeats 1000000 in
set_option maxRecDepth 100000 in
theorem sum93_any (s : ByteArray) (m : Nat) (hm : 0 < m) (hm2 : m ≤ 20) (hs : s.size ≤ 1000) (hd : ∀ i, i < s.size → nthU (bl s) i ∈ signs93) (w : World) :
    Calls Try.prog 49 #[.string s, .int .i64 m] w fun e w' => e = .returned (.int .i64 (check93 (vals93 (bl s)) m : Int)) ∧ w' = w := by
  have HD := Lib.hid hd
  have hv46 : Hid (∀ x ∈ vals93 (bl s), x ≤ 46) := Lib.hid (vals93_le _ (fun c hc => by
    obtain ⟨i, hi, rfl⟩ := List.mem_iff_getElem.1 hc
    rw [← nthU_eq hi]; exact hd i (by rw [← bl_length]; exact hi)))
  have HC : Hid (check93 (vals93 (bl s)) m = wsum (vals93 (bl s)) m s.size % 47) := Lib.hid (by rw [check93, vals93_length, bl_length])
  clear hd
  go_enter Try.func49, Try.ntmps49
  go_wp2
  go_loop [5, 6, 7, 8] (fun wt tt i _ => ∃ k : Nat, k ≤ s.size ∧ i = .int .i64 ((s.size : Int) - 1 - k) ∧ wt = .int .i64 ((1 + k % m : Nat) : Int) ∧ tt = .int .i64 (wsum (vals93 (bl s)) m k : Int)) (fun _ _ i _ => (intOf i + 1).toNat)
  case atStart => exact ⟨0, Nat.zero_le _, by simp, by simp, rfl⟩
  case round =>
    obtain ⟨k, hk, rfl, rfl, rfl⟩ := hrel
    have hwl := wsum_le (vals93 (bl s)) m k hv46.out hm hm2
    have hwl' : wsum (vals93 (bl s)) m k ≤ 920000 := by omega
    clear hwl
    by_cases hlt : k < s.size
    · have hks : s.size - 1 - k < s.size := by omega
      have hbyte := bl_get s (s.size - 1 - k) hks
      have hmem := HD.out _ hks
      have hlowA := Lib.hid (signs93_low _ hmem)
      have hidx := idxU_lt hmem
      have e47 : signs93.length = 47 := rfl
      rw [e47] at hidx
      have hzz : Hid (zzIdx (bl signs93SB) (nthU (bl s) (s.size - 1 - k)) = (idxU signs93 (nthU (bl s) (s.size - 1 - k)) : Int)) := Lib.hid (by
        rw [zzIdx, if_pos (show nthU (bl s) (s.size - 1 - k) ∈ bl signs93SB from List.mem_append_left _ hmem), idx93_S hmem])
      have hws : Hid (wsum (vals93 (bl s)) m (k + 1) = wsum (vals93 (bl s)) m k + idxU signs93 (nthU (bl s) (s.size - 1 - k)) * (1 + k % m)) := Lib.hid (by
        rw [wsum_succ, vals93_length, bl_length, vals93_nth _ _ (by rw [bl_length]; exact hks)])
      have hw1 := wrap_next m k hm
      have hmod := Nat.mod_lt k hm
      have htn : ((s.size : Int) - 1 - k).toNat = s.size - 1 - k := by omega
      generalize nthU (bl s) (s.size - 1 - k) = A at *
      generalize idxU signs93 A = ix at *
      generalize hWT' : 1 + (k + 1) % m = wt' at *
      have HWT' := Lib.hid hWT'
      clear hWT'
      have hWT : ∃ wt, 1 + k % m = wt := ⟨_, rfl⟩
      obtain ⟨wt, hWT⟩ := hWT
      have hwt20 : wt ≤ 20 := by omega
      rw [hWT] at hw1 hws
      generalize wsum (vals93 (bl s)) m k = T at *
      have hprod : ix * wt ≤ 46 * 20 := Nat.mul_le_mul (by omega) hwt20
      have hcast : (ix : Int) * (wt : Int) = ((ix * wt : Nat) : Int) := by simp
      have HCAST := Lib.hid hcast
      have HPROD := Lib.hid hprod
      have HW1 := Lib.hid hw1
      clear hmem e47 hcast hprod hw1
      rw [hWT]
      clear hWT hmod
      go_wp2_with fail
      rw [enc93_byte hlowA.out]
      refine (zzIndex_any signs93SB A (by decide) _).mono ?_
      rintro e wa ⟨rfl, rfl⟩
      rw [hzz.out]
      clear hzz hbyte hlowA
      have hcast := HCAST.out
      have hprod := HPROD.out
      generalize ix * wt = pr at *
      by_cases hwm : wt + 1 > m
      · have hw2 := Lib.hid (HW1.out.1 hwm)
        go_wp2
        go_round
        case rel => exact ⟨k + 1, by omega, by go_num, by rw [HWT'.out, hw2.out]; rfl, by rw [hws.out]; go_num⟩
        case measure => simp [intOf]; omega
      · have hw2 := Lib.hid (HW1.out.2 hwm)
        go_wp2
        go_round
        case rel => exact ⟨k + 1, by omega, by go_num, by rw [HWT'.out, hw2.out]; go_num, by rw [hws.out]; go_num⟩
        case measure => simp [intOf]; omega
    · have hk' : k = s.size := by omega
      rw [hk'] at hwl' ⊢
      clear hk'
      generalize wsum (vals93 (bl s)) m s.size = T at *
      go_wp2
      go_ret
      exact ⟨by rw [HC.out]; rfl, rfl⟩
end Go.Proofs.Ytpgddedhhjbgoaa
