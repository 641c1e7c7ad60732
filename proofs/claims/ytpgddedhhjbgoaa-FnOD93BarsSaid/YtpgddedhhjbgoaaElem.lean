/- Walks: spec.odElements, the elements of a character. -/
import Derived.Test.YtpgddedhhjbgoaaPlain
import Derived.Test.YtpgddedhhjbgoaaProg
namespace Go.Proofs.Ytpgddedhhjbgoaa
open Go.RowKit

theorem info_int : (Try.prog.info? 3).map (fun i => (i.zero, i.size, i.bytes)) = some (some (.int .i64 0), 1, 8) := by kernel_rfl
theorem info_bool : (Try.prog.info? 4).map (fun i => (i.zero, i.size, i.bytes)) = some (some (.bool false), 1, 1) := by kernel_rfl

set_option maxHeartbeats 400000 in
theorem odElements_any (bits many wide : Nat) (hb : bits ≤ 1000000) (hm : many ≤ 20) (hw : wide ≤ 1000) (w : World) :
    Calls Try.prog 23 #[.int .i64 bits, .int .i64 many, .int .i64 wide] w fun e w' =>
      ∃ v, e = .returned v ∧ w'.ownsRow w.heap.size 3 1 v many ((elements bits many wide).map I64) ∧ Below w.heap.size w w' := by
  obtain ⟨i0, hi, hz0, hz1, hz2⟩ := info_parts info_int
  go_enter Try.func23, Try.ntmps23
  go_wp2_with (at_make; refine wpList_make_full _ rfl _ _ 31 rfl w.heap.size 3 i0 (.int .i64 0) 1 Try.underlying31 hi hz0 hz1 _ _ _ _ many rfl rfl rfl rfl ?b1 ?b2 ?b3 ?_)
  case b1 => rw [hz2]; omega
  case b2 => unfold maxLen; omega
  case b3 => exact Nat.le_refl _
  intro w1 hown hgrow
  have hb0 : Below w.heap.size w w1 := below_of_grown hgrow (Nat.le_refl _) (fun k hk => by cases hk)
  clear hgrow
  rw [toList_madeCells_one] at hown
  go_wp2
  go_loopw [8] (fun i wr => ∃ k : Nat, k ≤ many ∧ i = .int .i64 k ∧ wr.ownsRow w.heap.size 3 1 (.slice (some ⟨w.heap.size, 0, none⟩) many many) many (((elements bits many wide).map I64).take k ++ List.replicate (many - k) (.int .i64 0)) ∧ Below w.heap.size w wr) (fun i _ => many - (intOf i).toNat)
  case atStart => exact ⟨0, Nat.zero_le _, rfl, by simpa using hown, hb0⟩
  case round =>
    clear hown hb0
    obtain ⟨k, hk, rfl, hown, hb⟩ := hrel
    by_cases hlt : k < many
    · have hc := hown.cellAt k (by omega)
      rw [fill_get _ _ _ _ (by simp [elements]) hlt] at hc
      have hf := hown.frozenAt k
      have st1 := hown.stored k (I64 1)
      have st2 := st1.1.stored k (I64 wide)
      have hb1 : Below w.heap.size w (wr.setCell ⟨w.heap.size, k, none⟩ (I64 1)) := hb.setCell (Nat.le_refl _) _
      have hb2 : Below w.heap.size w ((wr.setCell ⟨w.heap.size, k, none⟩ (I64 1)).setCell ⟨w.heap.size, k, none⟩ (I64 wide)) := hb1.setCell (Nat.le_refl _) _
      have o1 := st1.1
      have o2 := st2.1
      rw [List.set_set] at o2
      clear st1 st2 hown hb
      have hel : ((elements bits many wide).map I64).getD k undef = I64 (elemOf bits many wide k) := by simp [elements, List.getD, hlt]
      have fs := Lib.hid (fill_set ((elements bits many wide).map I64) (.int .i64 0) undef k many (by simp [elements]) hlt)
      by_cases hbit : (bits >>> (many - 1 - k)) % 2 = 1
      · have HB := bit_yes bits (many - 1 - k) (by omega) hbit
        have HE : Hid (I64 wide = ((elements bits many wide).map I64).getD k undef) := Lib.hid (by rw [hel]; simp [elemOf, hbit])
        clear hbit hel
        rw [HE.out, fs.out] at o2
        rw [← HE.out] at o2
        go_wp2
        go_roundw
        case rel => exact ⟨k + 1, by omega, by go_num, o2, hb2⟩
        case measure => simp [intOf]; omega
      · have HB := bit_no bits (many - 1 - k) (by omega) hbit
        have HE : Hid (I64 1 = ((elements bits many wide).map I64).getD k undef) := Lib.hid (by rw [hel]; simp [elemOf, hbit])
        clear hbit hel
        rw [HE.out, fs.out] at o1
        rw [← HE.out] at o1
        go_wp2
        go_roundw
        case rel => exact ⟨k + 1, by omega, by go_num, o1, hb1⟩
        case measure => simp [intOf]; omega
    · have hkn : k = many := by omega
      have hown' : wr.ownsRow w.heap.size 3 1 (.slice (some ⟨w.heap.size, 0, none⟩) many many) many ((elements bits many wide).map I64) := by
        have := hown
        rw [hkn, Nat.sub_self, List.replicate_zero, List.append_nil, List.take_of_length_le (by simp [elements])] at this
        exact this
      clear hown hkn
      go_wp2
      go_ret
      exact ⟨_, rfl, hown', hb⟩
theorem odElements_int (bits many wide : Int) (b0 : 0 ≤ bits) (hb : bits ≤ 1000000) (m0 : 0 ≤ many) (hm : many ≤ 20) (w0 : 0 ≤ wide) (hw : wide ≤ 1000) (w : World) :
    Calls Try.prog 23 #[.int .i64 bits, .int .i64 many, .int .i64 wide] w fun e w' =>
      ∃ v, e = .returned v ∧ w'.ownsRow w.heap.size 3 1 v many.toNat ((elements bits.toNat many.toNat wide.toNat).map I64) ∧ Below w.heap.size w w' := by
  obtain ⟨b, rfl⟩ := Int.eq_ofNat_of_zero_le b0
  obtain ⟨m, rfl⟩ := Int.eq_ofNat_of_zero_le m0
  obtain ⟨x, rfl⟩ := Int.eq_ofNat_of_zero_le w0
  exact odElements_any b m x (by omega) (by omega) (by omega) w
end Go.Proofs.Ytpgddedhhjbgoaa
