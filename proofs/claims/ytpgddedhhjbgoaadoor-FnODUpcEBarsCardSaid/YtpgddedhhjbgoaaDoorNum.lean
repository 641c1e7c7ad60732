/- Walks: oned.onedWriter_checkNumeric. -/
import Derived.Test.YtpgddedhhjbgoaaDoorPlain
import Derived.Test.YtpgddedhhjbgoaaDoorExc
namespace Go.Proofs.YtpgddedhhjbgoaaDoor
open Go.RowKit

set_option maxHeartbeats 1000000 in
set_option maxRecDepth 100000 in
theorem checkNumeric_any (s : ByteArray) (w : World) (ha : ∀ i, i < s.size → (nthU (bl s) i).toNat < 128) (hs : s.size ≤ 1000000) :
    Calls Tryd.prog 34 #[.string s] w fun e w' =>
      ((allDig s ∧ e = .returned .nilIface) ∨ (¬ allDig s ∧ ∃ u x, e = .returned (.iface u x))) ∧ Below w.heap.size w w' := by
  go_enter Tryd.func34, Tryd.ntmps34
  have HA := Lib.hid ha
  clear ha
  go_wp2
  go_loopw [4] (fun _ wr => ∃ k : Nat, k ≤ s.size ∧ wr = w.iter s k ∧ Hid (∀ i, i < k → isDig (nthU (bl s) i))) (fun _ wr => s.size - wr.iterPos w.heap.size)
  case atStart => exact ⟨0, Nat.zero_le _, rfl, Lib.hid (fun i h => absurd h (Nat.not_lt_zero _))⟩
  case round =>
    obtain ⟨k, hk, rfl, hd⟩ := hrel
    by_cases hp : k < s.size
    · have hbyte := bl_get s k hp
      have hnx : ∀ ty, (Instr.next (.pointer (some ⟨w.heap.size, 0, none⟩)) true ty).run Tryd.prog (w.iter s k) = _ := fun ty => run_next_ascii w s k ty hp (by rw [hbyte]; exact HA.out k hp)
      have hlt := HA.out k hp
      by_cases hdig : isDig (nthU (bl s) k)
      · have hd' : Hid (∀ i, i < k + 1 → isDig (nthU (bl s) i)) := Lib.hid (fun i hi => by
          rcases Nat.lt_or_ge i k with h | h
          · exact hd.out i h
          · rw [show i = k by omega]; exact hdig)
        obtain ⟨h1, h2⟩ := hdig
        generalize nthU (bl s) k = c at *
        go_wp2
        go_roundw
        case rel => exact ⟨k + 1, by omega, rfl, hd'⟩
        case measure => simp; omega
      · have hnot : ¬ allDig s := fun h => hdig (h k hp)
        unfold isDig at hdig
        generalize nthU (bl s) k = c at *
        have HN := Lib.hid hnot
        clear hnot
        by_cases hc : c.toNat < 48
        all_goals
          go_wp2_with (go_at_call 31; refine (NewWriterException_any _ _).mono ?_; rintro e w1 ⟨⟨u, x, rfl⟩, hb1⟩)
          go_ret
          refine ⟨.inr ⟨HN.out, _, _, rfl⟩, ?_⟩
          refine Below.trans ?_ (hb1.mono (by simp [World.iter]; omega))
          unfold World.iter
          go_grown
    · have hall : Hid (allDig s) := Lib.hid (fun i hi => hd.out i (by omega))
      have hks : k = s.size := by omega
      subst hks
      have hnx : ∀ ty, (Instr.next (.pointer (some ⟨w.heap.size, 0, none⟩)) true ty).run Tryd.prog (w.iter s s.size) = _ := fun ty => run_next_end w s s.size ty (by omega)
      go_wp2
      go_ret
      exact ⟨.inl ⟨hall.out, rfl⟩, by unfold World.iter; go_grown⟩
end Go.Proofs.YtpgddedhhjbgoaaDoor
