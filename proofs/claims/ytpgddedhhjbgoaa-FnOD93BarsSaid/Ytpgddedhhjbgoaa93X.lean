/- Walks: oned.code93ConvertToExtended. (Printed by gen93X.py.) -/
import Derived.Test.Ytpgddedhhjbgoaa93P
import Derived.Test.YtpgddedhhjbgoaaAscii
namespace Go.Proofs.Ytpgddedhhjbgoaa
open Go.RowKit

set_option maxHeartbeats 8000000 in
set_option maxRecDepth 100000 in
theorem ext93_any (s : ByteArray) (w : World) (hs : s.size ≤ 100000) (ha : ∀ i, i < s.size → (nthU (bl s) i).toNat < 128) :
    Calls Try.prog 46 #[.string s] w fun e w' => (∃ r : ByteArray, e = .returned (.tuple #[.string r, .nilIface]) ∧ bl r = pairs93 (bl s) s.size) ∧ Below w.heap.size w w' := by
  obtain ⟨i0, hi, hz0, hz1, hz2⟩ := info_parts info_u8
  have HA := Lib.hid ha
  clear ha
  have kc := fun (w : World) (C : Array Value) (n c : Nat) => Lib.run_convert_bytes_const (P := Try.prog) w 22 5 C n c Try.underlying22 Try.underlying5
  go_enter Try.func46, Try.ntmps46
  go_wp2_with (at_make; refine wpList_make_own _ rfl _ _ 22 rfl w.heap.size 5 i0 (.int .u8 0) 1 Try.underlying22 hi hz0 hz1 _ _ _ (s.size * 2) rfl rfl (by omega) (by rw [hz2]; omega) (by unfold maxLen; omega) (Nat.le_refl _) ?_)
  intro w1 hown1 hgrow1
  have hb1 : Below w.heap.size w w1 := below_of_grown hgrow1 (Nat.le_refl _) (fun k hk => by cases hk)
  clear hgrow1
  go_wp2
  go_loopw [5, 6, 7] (fun o i _ wr => ∃ (k : Nat) (L : List UInt8), k ≤ s.size ∧ i = .int .i64 k ∧ L = pairs93 (bl s) k ∧ L.length ≤ 2 * k ∧ wr.ownsRow w.heap.size 5 1 o L.length (L.map B8) ∧ Below w.heap.size w wr) (fun _ i _ _ => s.size - (intOf i).toNat)
  case atStart => exact ⟨0, [], Nat.zero_le _, rfl, rfl, Nat.le_refl _, hown1, hb1⟩
  case round =>
    clear hown1 hb1
    obtain ⟨k, L, hk, rfl, hL, hLl, hown, hb⟩ := hrel
    by_cases hlt : k < s.size
    · have hbyte := bl_get s k hlt
      have hlow := HA.out k hlt
      have hps := pairs93_succ (bl s) k
      rw [← hL] at hps
      have hp := pair93_is _ hlow
      clear hL
      generalize nthU (bl s) k = c at *
      generalize pair93 c = P at *
      have HPS := Lib.hid hps.symm
      have hsz := hb.size
      clear hps
      cases hp
      case nul h1 =>
        go_wp2_with (at_builtin; refine wpList_append_lies _ rfl _ _ 22 rfl w.heap.size 5 i0 (.int .u8 0) 1 1 Try.underlying22 hi hz0 hz1 hz2 rfl (by decide) _ _ _ rfl (hown.alloc _) ⟨wr.heap.size, 0, none⟩ 2 2 _ rfl rfl (two_newF wr _ _ _ _) (by intro u hu; simp at hu; rcases hu with rfl | rfl <;> rfl) (by decide) (by unfold maxLen; omega) (by omega) (by simp; omega) _ rfl ?_)
        intro g cap w5 hown5 hgrow hat hlt5
        have hb5 : Below w.heap.size w w5 := app_below hb hsz hown hgrow
        have hown6 : w5.ownsRow w.heap.size 5 1 _ (L ++ [98, 85]).length ((L ++ [98, 85]).map B8) := own_two8 hown5
        generalize Value.slice (some ⟨g, 0, none⟩) (L.length + 2) cap = vv at *
        clear hgrow hat hown hown5 hb
        go_wp2
        go_roundw
        case rel => exact ⟨k + 1, _, by omega, by go_num, HPS.out, by simp; omega, hown6, hb5⟩
        case measure => simp [intOf]; omega
      case colon h1 =>
        go_wp2_with (at_builtin; refine wpList_append_lies _ rfl _ _ 22 rfl w.heap.size 5 i0 (.int .u8 0) 1 1 Try.underlying22 hi hz0 hz1 hz2 rfl (by decide) _ _ _ rfl (hown.alloc _) ⟨wr.heap.size, 0, none⟩ 2 2 _ rfl rfl (two_newF wr _ _ _ _) (by intro u hu; simp at hu; rcases hu with rfl | rfl <;> rfl) (by decide) (by unfold maxLen; omega) (by omega) (by simp; omega) _ rfl ?_)
        intro g cap w5 hown5 hgrow hat hlt5
        have hb5 : Below w.heap.size w w5 := app_below hb hsz hown hgrow
        have hown6 : w5.ownsRow w.heap.size 5 1 _ (L ++ [99, 90]).length ((L ++ [99, 90]).map B8) := own_two8 hown5
        generalize Value.slice (some ⟨g, 0, none⟩) (L.length + 2) cap = vv at *
        clear hgrow hat hown hown5 hb
        go_wp2
        go_roundw
        case rel => exact ⟨k + 1, _, by omega, by go_num, HPS.out, by simp; omega, hown6, hb5⟩
        case measure => simp [intOf]; omega
      case att h1 =>
        go_wp2_with (at_builtin; refine wpList_append_lies _ rfl _ _ 22 rfl w.heap.size 5 i0 (.int .u8 0) 1 1 Try.underlying22 hi hz0 hz1 hz2 rfl (by decide) _ _ _ rfl (hown.alloc _) ⟨wr.heap.size, 0, none⟩ 2 2 _ rfl rfl (two_newF wr _ _ _ _) (by intro u hu; simp at hu; rcases hu with rfl | rfl <;> rfl) (by decide) (by unfold maxLen; omega) (by omega) (by simp; omega) _ rfl ?_)
        intro g cap w5 hown5 hgrow hat hlt5
        have hb5 : Below w.heap.size w w5 := app_below hb hsz hown hgrow
        have hown6 : w5.ownsRow w.heap.size 5 1 _ (L ++ [98, 86]).length ((L ++ [98, 86]).map B8) := own_two8 hown5
        generalize Value.slice (some ⟨g, 0, none⟩) (L.length + 2) cap = vv at *
        clear hgrow hat hown hown5 hb
        go_wp2
        go_roundw
        case rel => exact ⟨k + 1, _, by omega, by go_num, HPS.out, by simp; omega, hown6, hb5⟩
        case measure => simp [intOf]; omega
      case grave h1 =>
        go_wp2_with (at_builtin; refine wpList_append_lies _ rfl _ _ 22 rfl w.heap.size 5 i0 (.int .u8 0) 1 1 Try.underlying22 hi hz0 hz1 hz2 rfl (by decide) _ _ _ rfl (hown.alloc _) ⟨wr.heap.size, 0, none⟩ 2 2 _ rfl rfl (two_newF wr _ _ _ _) (by intro u hu; simp at hu; rcases hu with rfl | rfl <;> rfl) (by decide) (by unfold maxLen; omega) (by omega) (by simp; omega) _ rfl ?_)
        intro g cap w5 hown5 hgrow hat hlt5
        have hb5 : Below w.heap.size w w5 := app_below hb hsz hown hgrow
        have hown6 : w5.ownsRow w.heap.size 5 1 _ (L ++ [98, 87]).length ((L ++ [98, 87]).map B8) := own_two8 hown5
        generalize Value.slice (some ⟨g, 0, none⟩) (L.length + 2) cap = vv at *
        clear hgrow hat hown hown5 hb
        go_wp2
        go_roundw
        case rel => exact ⟨k + 1, _, by omega, by go_num, HPS.out, by simp; omega, hown6, hb5⟩
        case measure => simp [intOf]; omega
      case four h1 =>
        rcases h1 with h1 | h1 | h1 | h1
        all_goals
          go_wp2_with (at_builtin; refine wpList_append_lies _ rfl _ _ 22 rfl w.heap.size 5 i0 (.int .u8 0) 1 1 Try.underlying22 hi hz0 hz1 hz2 rfl (by decide) _ _ _ rfl (hown.alloc _) ⟨wr.heap.size, 0, none⟩ 1 1 _ rfl rfl (one_new wr _ _) (by intro u hu; simp at hu; subst hu; rfl) (by decide) (by unfold maxLen; omega) (by omega) (by simp; omega) _ rfl ?_)
          intro g cap w5 hown5 hgrow hat hlt5
          have hb5 : Below w.heap.size w w5 := app_below hb hsz hown hgrow
          have hown6 := own_snoc8 (d := c) hown5 (by first | rfl | omega)
          generalize Value.slice (some ⟨g, 0, none⟩) (L.length + 1) cap = vv at *
          clear hgrow hat hown hown5 hb
          go_wp2
          go_roundw
          case rel => exact ⟨k + 1, _, by omega, by go_num, HPS.out, by simp; omega, hown6, hb5⟩
          case measure => simp [intOf]; omega
      case own h1 =>
        rcases h1 with ⟨h1, h2⟩ | ⟨h1, h2⟩
        all_goals
          have q0 : ((c.toNat : Int) == 0) = false := by rw [beq_eq_false_iff_ne]; omega
          have q32 : ((c.toNat : Int) == 32) = false := by rw [beq_eq_false_iff_ne]; omega
          have q36 : ((c.toNat : Int) == 36) = false := by rw [beq_eq_false_iff_ne]; omega
          have q37 : ((c.toNat : Int) == 37) = false := by rw [beq_eq_false_iff_ne]; omega
          have q43 : ((c.toNat : Int) == 43) = false := by rw [beq_eq_false_iff_ne]; omega
          have q58 : ((c.toNat : Int) == 58) = false := by rw [beq_eq_false_iff_ne]; omega
          have q64 : ((c.toNat : Int) == 64) = false := by rw [beq_eq_false_iff_ne]; omega
          have q96 : ((c.toNat : Int) == 96) = false := by rw [beq_eq_false_iff_ne]; omega
          go_wp2_with (at_builtin; refine wpList_append_lies _ rfl _ _ 22 rfl w.heap.size 5 i0 (.int .u8 0) 1 1 Try.underlying22 hi hz0 hz1 hz2 rfl (by decide) _ _ _ rfl (hown.alloc _) ⟨wr.heap.size, 0, none⟩ 1 1 _ rfl rfl (one_new wr _ _) (by intro u hu; simp at hu; subst hu; rfl) (by decide) (by unfold maxLen; omega) (by omega) (by simp; omega) _ rfl ?_)
          intro g cap w5 hown5 hgrow hat hlt5
          have hb5 : Below w.heap.size w w5 := app_below hb hsz hown hgrow
          have hown6 := own_snoc8 (d := c) hown5 (by first | rfl | omega)
          generalize Value.slice (some ⟨g, 0, none⟩) (L.length + 1) cap = vv at *
          clear hgrow hat hown hown5 hb
          go_wp2
          go_roundw
          case rel => exact ⟨k + 1, _, by omega, by go_num, HPS.out, by simp; omega, hown6, hb5⟩
          case measure => simp [intOf]; omega
      case slash d h1 h3 =>
        rcases h1 with ⟨h1, h2⟩ | ⟨h1, h2⟩ | h1
        all_goals
          have q0 : ((c.toNat : Int) == 0) = false := by rw [beq_eq_false_iff_ne]; omega
          have q32 : ((c.toNat : Int) == 32) = false := by rw [beq_eq_false_iff_ne]; omega
          have q36 : ((c.toNat : Int) == 36) = false := by rw [beq_eq_false_iff_ne]; omega
          have q37 : ((c.toNat : Int) == 37) = false := by rw [beq_eq_false_iff_ne]; omega
          have q43 : ((c.toNat : Int) == 43) = false := by rw [beq_eq_false_iff_ne]; omega
          have q58 : ((c.toNat : Int) == 58) = false := by rw [beq_eq_false_iff_ne]; omega
          have q64 : ((c.toNat : Int) == 64) = false := by rw [beq_eq_false_iff_ne]; omega
          have q96 : ((c.toNat : Int) == 96) = false := by rw [beq_eq_false_iff_ne]; omega
          go_wp2_with (at_builtin; refine wpList_append_lies _ rfl _ _ 22 rfl w.heap.size 5 i0 (.int .u8 0) 1 1 Try.underlying22 hi hz0 hz1 hz2 rfl (by decide) _ _ _ rfl (hown.alloc _) ⟨wr.heap.size, 0, none⟩ 1 1 _ rfl rfl (one_new wr _ _) (by intro u hu; simp at hu; subst hu; rfl) (by decide) (by unfold maxLen; omega) (by omega) (by simp; omega) _ rfl ?_)
          intro g cap w5 hown5 hgrow hat hlt5
          have hb5 : Below w.heap.size w w5 := app_below hb hsz hown hgrow
          have hown6 := own_snoc8 (d := 99) hown5 (by first | rfl | omega)
          have hsz5 := hb5.size
          have hl6 : (L ++ [99]).length ≤ 2 * k + 1 := by simp; omega
          generalize Value.slice (some ⟨g, 0, none⟩) (L.length + 1) cap = vv at *
          clear hgrow hat hown hown5 hb
          generalize hM : L ++ [99] = M at *
          go_wp2_with (at_builtin; refine wpList_append_lies _ rfl _ _ 22 rfl w.heap.size 5 i0 (.int .u8 0) 1 1 Try.underlying22 hi hz0 hz1 hz2 rfl (by decide) _ _ _ rfl (hown6.alloc _) ⟨w5.heap.size, 0, none⟩ 1 1 _ rfl rfl (one_new w5 _ _) (by intro u hu; simp at hu; subst hu; rfl) (by decide) (by unfold maxLen; omega) (by omega) (by simp; omega) _ rfl ?_)
          intro g2 cap2 w6 hown7 hgrow2 hat2 hlt6
          have hb6 : Below w.heap.size w w6 := app_below hb5 hsz5 hown6 hgrow2
          have hown8 := own_snoc8 (d := d) hown7 (by first | rfl | omega)
          generalize Value.slice (some ⟨g2, 0, none⟩) (M.length + 1) cap2 = vv2 at *
          rw [← hM, List.append_assoc] at hown8
          have HM := Lib.hid hM
          clear hgrow2 hat2 hown6 hown7 hb5 hM
          go_wp2
          go_roundw
          case rel => exact ⟨k + 1, _, by omega, by go_num, HPS.out, by simp; omega, hown8, hb6⟩
          case measure => simp [intOf]; omega
      case dollar d h1 h2 h3 =>
        have q0 : ((c.toNat : Int) == 0) = false := by rw [beq_eq_false_iff_ne]; omega
        have q32 : ((c.toNat : Int) == 32) = false := by rw [beq_eq_false_iff_ne]; omega
        have q36 : ((c.toNat : Int) == 36) = false := by rw [beq_eq_false_iff_ne]; omega
        have q37 : ((c.toNat : Int) == 37) = false := by rw [beq_eq_false_iff_ne]; omega
        have q43 : ((c.toNat : Int) == 43) = false := by rw [beq_eq_false_iff_ne]; omega
        have q58 : ((c.toNat : Int) == 58) = false := by rw [beq_eq_false_iff_ne]; omega
        have q64 : ((c.toNat : Int) == 64) = false := by rw [beq_eq_false_iff_ne]; omega
        have q96 : ((c.toNat : Int) == 96) = false := by rw [beq_eq_false_iff_ne]; omega
        go_wp2_with (at_builtin; refine wpList_append_lies _ rfl _ _ 22 rfl w.heap.size 5 i0 (.int .u8 0) 1 1 Try.underlying22 hi hz0 hz1 hz2 rfl (by decide) _ _ _ rfl (hown.alloc _) ⟨wr.heap.size, 0, none⟩ 1 1 _ rfl rfl (one_new wr _ _) (by intro u hu; simp at hu; subst hu; rfl) (by decide) (by unfold maxLen; omega) (by omega) (by simp; omega) _ rfl ?_)
        intro g cap w5 hown5 hgrow hat hlt5
        have hb5 : Below w.heap.size w w5 := app_below hb hsz hown hgrow
        have hown6 := own_snoc8 (d := 97) hown5 (by first | rfl | omega)
        have hsz5 := hb5.size
        have hl6 : (L ++ [97]).length ≤ 2 * k + 1 := by simp; omega
        generalize Value.slice (some ⟨g, 0, none⟩) (L.length + 1) cap = vv at *
        clear hgrow hat hown hown5 hb
        generalize hM : L ++ [97] = M at *
        go_wp2_with (at_builtin; refine wpList_append_lies _ rfl _ _ 22 rfl w.heap.size 5 i0 (.int .u8 0) 1 1 Try.underlying22 hi hz0 hz1 hz2 rfl (by decide) _ _ _ rfl (hown6.alloc _) ⟨w5.heap.size, 0, none⟩ 1 1 _ rfl rfl (one_new w5 _ _) (by intro u hu; simp at hu; subst hu; rfl) (by decide) (by unfold maxLen; omega) (by omega) (by simp; omega) _ rfl ?_)
        intro g2 cap2 w6 hown7 hgrow2 hat2 hlt6
        have hb6 : Below w.heap.size w w6 := app_below hb5 hsz5 hown6 hgrow2
        have hown8 := own_snoc8 (d := d) hown7 (by first | rfl | omega)
        generalize Value.slice (some ⟨g2, 0, none⟩) (M.length + 1) cap2 = vv2 at *
        rw [← hM, List.append_assoc] at hown8
        have HM := Lib.hid hM
        clear hgrow2 hat2 hown6 hown7 hb5 hM
        go_wp2
        go_roundw
        case rel => exact ⟨k + 1, _, by omega, by go_num, HPS.out, by simp; omega, hown8, hb6⟩
        case measure => simp [intOf]; omega
      case esc d h1 h2 h3 =>
        have q0 : ((c.toNat : Int) == 0) = false := by rw [beq_eq_false_iff_ne]; omega
        have q32 : ((c.toNat : Int) == 32) = false := by rw [beq_eq_false_iff_ne]; omega
        have q36 : ((c.toNat : Int) == 36) = false := by rw [beq_eq_false_iff_ne]; omega
        have q37 : ((c.toNat : Int) == 37) = false := by rw [beq_eq_false_iff_ne]; omega
        have q43 : ((c.toNat : Int) == 43) = false := by rw [beq_eq_false_iff_ne]; omega
        have q58 : ((c.toNat : Int) == 58) = false := by rw [beq_eq_false_iff_ne]; omega
        have q64 : ((c.toNat : Int) == 64) = false := by rw [beq_eq_false_iff_ne]; omega
        have q96 : ((c.toNat : Int) == 96) = false := by rw [beq_eq_false_iff_ne]; omega
        go_wp2_with (at_builtin; refine wpList_append_lies _ rfl _ _ 22 rfl w.heap.size 5 i0 (.int .u8 0) 1 1 Try.underlying22 hi hz0 hz1 hz2 rfl (by decide) _ _ _ rfl (hown.alloc _) ⟨wr.heap.size, 0, none⟩ 1 1 _ rfl rfl (one_new wr _ _) (by intro u hu; simp at hu; subst hu; rfl) (by decide) (by unfold maxLen; omega) (by omega) (by simp; omega) _ rfl ?_)
        intro g cap w5 hown5 hgrow hat hlt5
        have hb5 : Below w.heap.size w w5 := app_below hb hsz hown hgrow
        have hown6 := own_snoc8 (d := 98) hown5 (by first | rfl | omega)
        have hsz5 := hb5.size
        have hl6 : (L ++ [98]).length ≤ 2 * k + 1 := by simp; omega
        generalize Value.slice (some ⟨g, 0, none⟩) (L.length + 1) cap = vv at *
        clear hgrow hat hown hown5 hb
        generalize hM : L ++ [98] = M at *
        go_wp2_with (at_builtin; refine wpList_append_lies _ rfl _ _ 22 rfl w.heap.size 5 i0 (.int .u8 0) 1 1 Try.underlying22 hi hz0 hz1 hz2 rfl (by decide) _ _ _ rfl (hown6.alloc _) ⟨w5.heap.size, 0, none⟩ 1 1 _ rfl rfl (one_new w5 _ _) (by intro u hu; simp at hu; subst hu; rfl) (by decide) (by unfold maxLen; omega) (by omega) (by simp; omega) _ rfl ?_)
        intro g2 cap2 w6 hown7 hgrow2 hat2 hlt6
        have hb6 : Below w.heap.size w w6 := app_below hb5 hsz5 hown6 hgrow2
        have hown8 := own_snoc8 (d := d) hown7 (by first | rfl | omega)
        generalize Value.slice (some ⟨g2, 0, none⟩) (M.length + 1) cap2 = vv2 at *
        rw [← hM, List.append_assoc] at hown8
        have HM := Lib.hid hM
        clear hgrow2 hat2 hown6 hown7 hb5 hM
        go_wp2
        go_roundw
        case rel => exact ⟨k + 1, _, by omega, by go_num, HPS.out, by simp; omega, hown8, hb6⟩
        case measure => simp [intOf]; omega
      case semi d h1 h2 h3 =>
        have q0 : ((c.toNat : Int) == 0) = false := by rw [beq_eq_false_iff_ne]; omega
        have q32 : ((c.toNat : Int) == 32) = false := by rw [beq_eq_false_iff_ne]; omega
        have q36 : ((c.toNat : Int) == 36) = false := by rw [beq_eq_false_iff_ne]; omega
        have q37 : ((c.toNat : Int) == 37) = false := by rw [beq_eq_false_iff_ne]; omega
        have q43 : ((c.toNat : Int) == 43) = false := by rw [beq_eq_false_iff_ne]; omega
        have q58 : ((c.toNat : Int) == 58) = false := by rw [beq_eq_false_iff_ne]; omega
        have q64 : ((c.toNat : Int) == 64) = false := by rw [beq_eq_false_iff_ne]; omega
        have q96 : ((c.toNat : Int) == 96) = false := by rw [beq_eq_false_iff_ne]; omega
        go_wp2_with (at_builtin; refine wpList_append_lies _ rfl _ _ 22 rfl w.heap.size 5 i0 (.int .u8 0) 1 1 Try.underlying22 hi hz0 hz1 hz2 rfl (by decide) _ _ _ rfl (hown.alloc _) ⟨wr.heap.size, 0, none⟩ 1 1 _ rfl rfl (one_new wr _ _) (by intro u hu; simp at hu; subst hu; rfl) (by decide) (by unfold maxLen; omega) (by omega) (by simp; omega) _ rfl ?_)
        intro g cap w5 hown5 hgrow hat hlt5
        have hb5 : Below w.heap.size w w5 := app_below hb hsz hown hgrow
        have hown6 := own_snoc8 (d := 98) hown5 (by first | rfl | omega)
        have hsz5 := hb5.size
        have hl6 : (L ++ [98]).length ≤ 2 * k + 1 := by simp; omega
        generalize Value.slice (some ⟨g, 0, none⟩) (L.length + 1) cap = vv at *
        clear hgrow hat hown hown5 hb
        generalize hM : L ++ [98] = M at *
        go_wp2_with (at_builtin; refine wpList_append_lies _ rfl _ _ 22 rfl w.heap.size 5 i0 (.int .u8 0) 1 1 Try.underlying22 hi hz0 hz1 hz2 rfl (by decide) _ _ _ rfl (hown6.alloc _) ⟨w5.heap.size, 0, none⟩ 1 1 _ rfl rfl (one_new w5 _ _) (by intro u hu; simp at hu; subst hu; rfl) (by decide) (by unfold maxLen; omega) (by omega) (by simp; omega) _ rfl ?_)
        intro g2 cap2 w6 hown7 hgrow2 hat2 hlt6
        have hb6 : Below w.heap.size w w6 := app_below hb5 hsz5 hown6 hgrow2
        have hown8 := own_snoc8 (d := d) hown7 (by first | rfl | omega)
        generalize Value.slice (some ⟨g2, 0, none⟩) (M.length + 1) cap2 = vv2 at *
        rw [← hM, List.append_assoc] at hown8
        have HM := Lib.hid hM
        clear hgrow2 hat2 hown6 hown7 hb5 hM
        go_wp2
        go_roundw
        case rel => exact ⟨k + 1, _, by omega, by go_num, HPS.out, by simp; omega, hown8, hb6⟩
        case measure => simp [intOf]; omega
      case brack d h1 h2 h3 =>
        have q0 : ((c.toNat : Int) == 0) = false := by rw [beq_eq_false_iff_ne]; omega
        have q32 : ((c.toNat : Int) == 32) = false := by rw [beq_eq_false_iff_ne]; omega
        have q36 : ((c.toNat : Int) == 36) = false := by rw [beq_eq_false_iff_ne]; omega
        have q37 : ((c.toNat : Int) == 37) = false := by rw [beq_eq_false_iff_ne]; omega
        have q43 : ((c.toNat : Int) == 43) = false := by rw [beq_eq_false_iff_ne]; omega
        have q58 : ((c.toNat : Int) == 58) = false := by rw [beq_eq_false_iff_ne]; omega
        have q64 : ((c.toNat : Int) == 64) = false := by rw [beq_eq_false_iff_ne]; omega
        have q96 : ((c.toNat : Int) == 96) = false := by rw [beq_eq_false_iff_ne]; omega
        go_wp2_with (at_builtin; refine wpList_append_lies _ rfl _ _ 22 rfl w.heap.size 5 i0 (.int .u8 0) 1 1 Try.underlying22 hi hz0 hz1 hz2 rfl (by decide) _ _ _ rfl (hown.alloc _) ⟨wr.heap.size, 0, none⟩ 1 1 _ rfl rfl (one_new wr _ _) (by intro u hu; simp at hu; subst hu; rfl) (by decide) (by unfold maxLen; omega) (by omega) (by simp; omega) _ rfl ?_)
        intro g cap w5 hown5 hgrow hat hlt5
        have hb5 : Below w.heap.size w w5 := app_below hb hsz hown hgrow
        have hown6 := own_snoc8 (d := 98) hown5 (by first | rfl | omega)
        have hsz5 := hb5.size
        have hl6 : (L ++ [98]).length ≤ 2 * k + 1 := by simp; omega
        generalize Value.slice (some ⟨g, 0, none⟩) (L.length + 1) cap = vv at *
        clear hgrow hat hown hown5 hb
        generalize hM : L ++ [98] = M at *
        go_wp2_with (at_builtin; refine wpList_append_lies _ rfl _ _ 22 rfl w.heap.size 5 i0 (.int .u8 0) 1 1 Try.underlying22 hi hz0 hz1 hz2 rfl (by decide) _ _ _ rfl (hown6.alloc _) ⟨w5.heap.size, 0, none⟩ 1 1 _ rfl rfl (one_new w5 _ _) (by intro u hu; simp at hu; subst hu; rfl) (by decide) (by unfold maxLen; omega) (by omega) (by simp; omega) _ rfl ?_)
        intro g2 cap2 w6 hown7 hgrow2 hat2 hlt6
        have hb6 : Below w.heap.size w w6 := app_below hb5 hsz5 hown6 hgrow2
        have hown8 := own_snoc8 (d := d) hown7 (by first | rfl | omega)
        generalize Value.slice (some ⟨g2, 0, none⟩) (M.length + 1) cap2 = vv2 at *
        rw [← hM, List.append_assoc] at hown8
        have HM := Lib.hid hM
        clear hgrow2 hat2 hown6 hown7 hb5 hM
        go_wp2
        go_roundw
        case rel => exact ⟨k + 1, _, by omega, by go_num, HPS.out, by simp; omega, hown8, hb6⟩
        case measure => simp [intOf]; omega
      case small d h1 h2 h3 =>
        have q0 : ((c.toNat : Int) == 0) = false := by rw [beq_eq_false_iff_ne]; omega
        have q32 : ((c.toNat : Int) == 32) = false := by rw [beq_eq_false_iff_ne]; omega
        have q36 : ((c.toNat : Int) == 36) = false := by rw [beq_eq_false_iff_ne]; omega
        have q37 : ((c.toNat : Int) == 37) = false := by rw [beq_eq_false_iff_ne]; omega
        have q43 : ((c.toNat : Int) == 43) = false := by rw [beq_eq_false_iff_ne]; omega
        have q58 : ((c.toNat : Int) == 58) = false := by rw [beq_eq_false_iff_ne]; omega
        have q64 : ((c.toNat : Int) == 64) = false := by rw [beq_eq_false_iff_ne]; omega
        have q96 : ((c.toNat : Int) == 96) = false := by rw [beq_eq_false_iff_ne]; omega
        go_wp2_with (at_builtin; refine wpList_append_lies _ rfl _ _ 22 rfl w.heap.size 5 i0 (.int .u8 0) 1 1 Try.underlying22 hi hz0 hz1 hz2 rfl (by decide) _ _ _ rfl (hown.alloc _) ⟨wr.heap.size, 0, none⟩ 1 1 _ rfl rfl (one_new wr _ _) (by intro u hu; simp at hu; subst hu; rfl) (by decide) (by unfold maxLen; omega) (by omega) (by simp; omega) _ rfl ?_)
        intro g cap w5 hown5 hgrow hat hlt5
        have hb5 : Below w.heap.size w w5 := app_below hb hsz hown hgrow
        have hown6 := own_snoc8 (d := 100) hown5 (by first | rfl | omega)
        have hsz5 := hb5.size
        have hl6 : (L ++ [100]).length ≤ 2 * k + 1 := by simp; omega
        generalize Value.slice (some ⟨g, 0, none⟩) (L.length + 1) cap = vv at *
        clear hgrow hat hown hown5 hb
        generalize hM : L ++ [100] = M at *
        go_wp2_with (at_builtin; refine wpList_append_lies _ rfl _ _ 22 rfl w.heap.size 5 i0 (.int .u8 0) 1 1 Try.underlying22 hi hz0 hz1 hz2 rfl (by decide) _ _ _ rfl (hown6.alloc _) ⟨w5.heap.size, 0, none⟩ 1 1 _ rfl rfl (one_new w5 _ _) (by intro u hu; simp at hu; subst hu; rfl) (by decide) (by unfold maxLen; omega) (by omega) (by simp; omega) _ rfl ?_)
        intro g2 cap2 w6 hown7 hgrow2 hat2 hlt6
        have hb6 : Below w.heap.size w w6 := app_below hb5 hsz5 hown6 hgrow2
        have hown8 := own_snoc8 (d := d) hown7 (by first | rfl | omega)
        generalize Value.slice (some ⟨g2, 0, none⟩) (M.length + 1) cap2 = vv2 at *
        rw [← hM, List.append_assoc] at hown8
        have HM := Lib.hid hM
        clear hgrow2 hat2 hown6 hown7 hb5 hM
        go_wp2
        go_roundw
        case rel => exact ⟨k + 1, _, by omega, by go_num, HPS.out, by simp; omega, hown8, hb6⟩
        case measure => simp [intOf]; omega
      case brace d h1 h2 h3 =>
        have q0 : ((c.toNat : Int) == 0) = false := by rw [beq_eq_false_iff_ne]; omega
        have q32 : ((c.toNat : Int) == 32) = false := by rw [beq_eq_false_iff_ne]; omega
        have q36 : ((c.toNat : Int) == 36) = false := by rw [beq_eq_false_iff_ne]; omega
        have q37 : ((c.toNat : Int) == 37) = false := by rw [beq_eq_false_iff_ne]; omega
        have q43 : ((c.toNat : Int) == 43) = false := by rw [beq_eq_false_iff_ne]; omega
        have q58 : ((c.toNat : Int) == 58) = false := by rw [beq_eq_false_iff_ne]; omega
        have q64 : ((c.toNat : Int) == 64) = false := by rw [beq_eq_false_iff_ne]; omega
        have q96 : ((c.toNat : Int) == 96) = false := by rw [beq_eq_false_iff_ne]; omega
        go_wp2_with (at_builtin; refine wpList_append_lies _ rfl _ _ 22 rfl w.heap.size 5 i0 (.int .u8 0) 1 1 Try.underlying22 hi hz0 hz1 hz2 rfl (by decide) _ _ _ rfl (hown.alloc _) ⟨wr.heap.size, 0, none⟩ 1 1 _ rfl rfl (one_new wr _ _) (by intro u hu; simp at hu; subst hu; rfl) (by decide) (by unfold maxLen; omega) (by omega) (by simp; omega) _ rfl ?_)
        intro g cap w5 hown5 hgrow hat hlt5
        have hb5 : Below w.heap.size w w5 := app_below hb hsz hown hgrow
        have hown6 := own_snoc8 (d := 98) hown5 (by first | rfl | omega)
        have hsz5 := hb5.size
        have hl6 : (L ++ [98]).length ≤ 2 * k + 1 := by simp; omega
        generalize Value.slice (some ⟨g, 0, none⟩) (L.length + 1) cap = vv at *
        clear hgrow hat hown hown5 hb
        generalize hM : L ++ [98] = M at *
        go_wp2_with (at_builtin; refine wpList_append_lies _ rfl _ _ 22 rfl w.heap.size 5 i0 (.int .u8 0) 1 1 Try.underlying22 hi hz0 hz1 hz2 rfl (by decide) _ _ _ rfl (hown6.alloc _) ⟨w5.heap.size, 0, none⟩ 1 1 _ rfl rfl (one_new w5 _ _) (by intro u hu; simp at hu; subst hu; rfl) (by decide) (by unfold maxLen; omega) (by omega) (by simp; omega) _ rfl ?_)
        intro g2 cap2 w6 hown7 hgrow2 hat2 hlt6
        have hb6 : Below w.heap.size w w6 := app_below hb5 hsz5 hown6 hgrow2
        have hown8 := own_snoc8 (d := d) hown7 (by first | rfl | omega)
        generalize Value.slice (some ⟨g2, 0, none⟩) (M.length + 1) cap2 = vv2 at *
        rw [← hM, List.append_assoc] at hown8
        have HM := Lib.hid hM
        clear hgrow2 hat2 hown6 hown7 hb5 hM
        go_wp2
        go_roundw
        case rel => exact ⟨k + 1, _, by omega, by go_num, HPS.out, by simp; omega, hown8, hb6⟩
        case measure => simp [intOf]; omega
    · have hks : Hid (∀ r : ByteArray, r = ⟨L.toArray⟩ → bl r = pairs93 (bl s) s.size) := Lib.hid (fun r hr => by rw [hr, bl_mk, hL, show k = s.size by omega])
      have hcv : ∃ W : Value, W = u5 ∧ (convert 22 9 W).run Try.prog wr = .ok (.string ⟨L.toArray⟩) wr := by
        refine ⟨u5, rfl, ?_⟩
        rcases hown.2 with ⟨hv, hn⟩ | ⟨g, cap, cur, hv, _⟩
        · rw [hv, List.eq_nil_of_length_eq_zero hn]
          exact Lib.run_convert_nil_bytes (P := Try.prog) wr 22 9 5 0 Try.underlying22 Try.underlying5 Try.underlying9
        · rw [hv] at hown ⊢
          exact conv_own (P := Try.prog) Try.underlying22 Try.underlying5 Try.underlying9 hown
      obtain ⟨W, rfl, hcv⟩ := hcv
      clear hL
      go_wp2
      go_ret2
      exact ⟨⟨_, rfl, hks.out _ rfl⟩, hb⟩
end Go.Proofs.Ytpgddedhhjbgoaa
