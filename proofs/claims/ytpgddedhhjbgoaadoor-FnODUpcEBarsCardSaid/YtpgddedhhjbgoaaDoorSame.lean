/- Walks: spec.ODSame, spec.ODSome. -/
import Derived.Test.YtpgddedhhjbgoaaDoorBase
import Derived.Test.YtpgddedhhjbgoaaDoorProg
namespace Go.Proofs.YtpgddedhhjbgoaaDoor
open Go.RowKit

theorem take_snoc_eq {xs ys : List Bool} {k : Nat} (h1 : k < xs.length) (h2 : k < ys.length) (h : xs.take k = ys.take k) : (xs.take (k + 1) = ys.take (k + 1)) ↔ nthB xs k = nthB ys k := by
  rw [List.take_succ_eq_append_getElem h1, List.take_succ_eq_append_getElem h2, h, List.append_cancel_left_eq, nthB_eq h1, nthB_eq h2]
  simp

set_option maxHeartbeats 1000000 in
set_option maxRecDepth 100000 in
theorem ODSame_any (xs ys : List Bool) (v1 v2 : Value) (w : World) (h1 : SlAt w v1 (xs.map .bool)) (h2 : SlAt w v2 (ys.map .bool)) :
    Calls Tryd.prog 8 #[v1, v2] w fun e w' => e = .returned (.bool (decide (xs = ys))) ∧ ∃ n, w' = w.drewN n := by
  obtain ⟨a1, c1, rfl, hm1⟩ := h1.form
  obtain ⟨a2, c2, rfl, hm2⟩ := h2.form
  simp only [List.length_map] at hm1 hm2 ⊢
  by_cases hl : xs.length = ys.length
  · have hne : (((xs.length : Int) != (ys.length : Int))) = false := by simp; omega
    have HL := Lib.hid hl
    clear hl
    have H1 := Lib.hid h1
    have H2 := Lib.hid h2
    clear h1 h2
    go_enter Tryd.func8, Tryd.ntmps8
    go_wp2
    go_loopw [5, 13] (fun i k wr => ∃ k' : Nat, k' ≤ xs.length ∧ k = .int .i64 k' ∧ Hid (xs.take k' = ys.take k') ∧ ∃ n, wr = w.drewN n) (fun _ k _ => xs.length - (intOf k).toNat)
    case atStart => exact ⟨0, Nat.zero_le _, rfl, Lib.hid (by simp), 0, rfl⟩
    case round =>
      obtain ⟨k, hk, rfl, hp, n, rfl⟩ := hrel
      by_cases hlt : k < xs.length
      · have hl2 : k < ys.length := by have := HL.out; omega
        obtain ⟨b, o, rfl, hc1⟩ := H1.out.getB k hlt
        obtain ⟨b2, o2, rfl, hc2⟩ := H2.out.getB k hl2
        have TS := Lib.hid (take_snoc_eq hlt hl2 hp.out)
        have NE : Hid (nthB xs k ≠ nthB ys k → decide (xs = ys) = false) := Lib.hid (fun h => by
          rw [decide_eq_false_iff_not]; intro e; rw [e] at h; exact h rfl)
        generalize nthB xs k = x at *
        generalize nthB ys k = y at *
        have hlo : (k : Int) < xs.length := by omega
        have hlo2 : (k : Int) < ys.length := by omega
        go_wp2_with fail
        go_quiet (fail)
        cases x <;> cases y
        · have T : Hid (xs.take (k + 1) = ys.take (k + 1)) := Lib.hid (TS.out.2 rfl)
          go_wp2
          go_roundw
          case rel => exact ⟨k + 1, by omega, by go_num, T, n + nq, rfl⟩
          case measure => simp [intOf]; omega
        · have D : Hid (decide (xs = ys) = false) := Lib.hid (NE.out (by decide))
          go_wp2
          go_ret
          exact ⟨by rw [D.out]; rfl, n + nq, by simp⟩
        · have D : Hid (decide (xs = ys) = false) := Lib.hid (NE.out (by decide))
          go_wp2
          go_ret
          exact ⟨by rw [D.out]; rfl, n + nq, by simp⟩
        · have T : Hid (xs.take (k + 1) = ys.take (k + 1)) := Lib.hid (TS.out.2 rfl)
          go_wp2
          go_roundw
          case rel => exact ⟨k + 1, by omega, by go_num, T, n + nq, rfl⟩
          case measure => simp [intOf]; omega
      · have D : Hid (decide (xs = ys) = true) := Lib.hid (by
          have := hp.out
          rw [List.take_of_length_le (by omega), List.take_of_length_le (by have := HL.out; omega)] at this
          exact decide_eq_true this)
        have hl2 : ¬ k < ys.length := by have := HL.out; omega
        go_wp2
        go_ret
        exact ⟨by rw [D.out]; rfl, n, rfl⟩
  · have hne : (((xs.length : Int) != (ys.length : Int))) = true := by simp; omega
    have D : Hid (decide (xs = ys) = false) := Lib.hid (by rw [decide_eq_false_iff_not]; intro e; exact hl (by rw [e]))
    clear hl h1 h2
    go_enter Tryd.func8, Tryd.ntmps8
    go_wp2
    go_ret
    exact ⟨by rw [D.out]; rfl, 0, rfl⟩

def odSome (signs cs : List UInt8) (most : Nat) : List UInt8 := (cs.take most).map fun c => nthU signs (c.toNat % signs.length)
theorem odSome_snoc (signs cs : List UInt8) (k : Nat) (h : k < cs.length) : odSome signs cs (k + 1) = odSome signs cs k ++ [nthU signs ((nthU cs k).toNat % signs.length)] := by
  unfold odSome
  rw [List.take_succ_eq_append_getElem h, List.map_append, nthU_eq h]; rfl
theorem odSome_length (signs cs : List UInt8) (k : Nat) : (odSome signs cs k).length = min k cs.length := by simp [odSome]

end Go.Proofs.YtpgddedhhjbgoaaDoor
