/- Walks: spec.ODSame, spec.ODSome. -/
import Derived.Test.YtpgddedhhjbgoaaBase
import Derived.Test.YtpgddedhhjbgoaaProg
namespace Go.Proofs.Ytpgddedhhjbgoaa
open Go.RowKit

theorem take_snoc_eq {xs ys : List Bool} {k : Nat} (h1 : k < xs.length) (h2 : k < ys.length) (h : xs.take k = ys.take k) : (xs.take (k + 1) = ys.take (k + 1)) ↔ nthB xs k = nthB ys k := by
  rw [List.take_succ_eq_append_getElem h1, List.take_succ_eq_append_getElem h2, h, List.append_cancel_left_eq, nthB_eq h1, nthB_eq h2]
  simp

set_option maxHeartbeats 1000000 in
set_option maxRecDepth 100000 in
theorem ODSame_any (xs ys : List Bool) (v1 v2 : Value) (w : World) (h1 : SlAt w v1 (xs.map .bool)) (h2 : SlAt w v2 (ys.map .bool)) :
    Calls Try.prog 9 #[v1, v2] w fun e w' => e = .returned (.bool (decide (xs = ys))) ∧ ∃ n, w' = w.drewN n := by
  obtain ⟨a1, c1, rfl, hm1⟩ := h1.form
  obtain ⟨a2, c2, rfl, hm2⟩ := h2.form
  simp only [List.length_map] at hm1 hm2 ⊢
  by_cases hl : xs.length = ys.length
  · have hne : (((xs.length : Int) != (ys.length : Int))) = false := by simp; omega
    have HL := Lib.hid hl
    clear hl
    have H1 := Lib.hid h1
    have H2 := Lib.hid h2
    clear h1 h2
    go_enter Try.func9, Try.ntmps9
    go_wp2
    go_loopw [5, 13] (fun i k wr => ∃ k' : Nat, k' ≤ xs.length ∧ k = .int .i64 k' ∧ Hid (xs.take k' = ys.take k') ∧ ∃ n, wr = w.drewN n) (fun _ k _ => xs.length - (intOf k).toNat)
    case atStart => exact ⟨0, Nat.zero_le _, rfl, Lib.hid (by simp), 0, rfl⟩
    case round =>
      obtain ⟨k, hk, rfl, hp, n, rfl⟩ := hrel
      by_cases hlt : k < xs.length
      · have hl2 : k < ys.length := by have := HL.out; omega
        obtain ⟨b, o, rfl, hc1⟩ := H1.out.getB k hlt
        obtain ⟨b2, o2, rfl, hc2⟩ := H2.out.getB k hl2
        have TS := Lib.hid (take_snoc_eq hlt hl2 hp.out)
        have NE : Hid (nthB xs k ≠ nthB ys k → decide (xs = ys) = false) := Lib.hid (fun h => by
          rw [decide_eq_false_iff_not]; intro e; rw [e] at h; exact h rfl)
        generalize nthB xs k = x at *
        generalize nthB ys k = y at *
        have hlo : (k : Int) < xs.length := by omega
        have hlo2 : (k : Int) < ys.length := by omega
        go_wp2_with fail
        go_quiet (fail)
        cases x <;> cases y
        · have T : Hid (xs.take (k + 1) = ys.take (k + 1)) := Lib.hid (TS.out.2 rfl)
          go_wp2
          go_roundw
          case rel => exact ⟨k + 1, by omega, by go_num, T, n + nq, rfl⟩
          case measure => simp [intOf]; omega
        · have D : Hid (decide (xs = ys) = false) := Lib.hid (NE.out (by decide))
          go_wp2
          go_ret
          exact ⟨by rw [D.out]; rfl, n + nq, by simp⟩
        · have D : Hid (decide (xs = ys) = false) := Lib.hid (NE.out (by decide))
          go_wp2
          go_ret
          exact ⟨by rw [D.out]; rfl, n + nq, by simp⟩
        · have T : Hid (xs.take (k + 1) = ys.take (k + 1)) := Lib.hid (TS.out.2 rfl)
          go_wp2
          go_roundw
          case rel => exact ⟨k + 1, by omega, by go_num, T, n + nq, rfl⟩
          case measure => simp [intOf]; omega
      · have D : Hid (decide (xs = ys) = true) := Lib.hid (by
          have := hp.out
          rw [List.take_of_length_le (by omega), List.take_of_length_le (by have := HL.out; omega)] at this
          exact decide_eq_true this)
        have hl2 : ¬ k < ys.length := by have := HL.out; omega
        go_wp2
        go_ret
        exact ⟨by rw [D.out]; rfl, n, rfl⟩
  · have hne : (((xs.length : Int) != (ys.length : Int))) = true := by simp; omega
    have D : Hid (decide (xs = ys) = false) := Lib.hid (by rw [decide_eq_false_iff_not]; intro e; exact hl (by rw [e]))
    clear hl h1 h2
    go_enter Try.func9, Try.ntmps9
    go_wp2
    go_ret
    exact ⟨by rw [D.out]; rfl, 0, rfl⟩

def odSome (signs cs : List UInt8) (most : Nat) : List UInt8 := (cs.take most).map fun c => nthU signs (c.toNat % signs.length)
theorem odSome_snoc (signs cs : List UInt8) (k : Nat) (h : k < cs.length) : odSome signs cs (k + 1) = odSome signs cs k ++ [nthU signs ((nthU cs k).toNat % signs.length)] := by
  unfold odSome
  rw [List.take_succ_eq_append_getElem h, List.map_append, nthU_eq h]; rfl
theorem odSome_length (signs cs : List UInt8) (k : Nat) : (odSome signs cs k).length = min k cs.length := by simp [odSome]

set_option maxHeartbeats 1000000 in
set_option maxRecDepth 100000 in
theorem ODSome_any (signs : ByteArray) (hs : 0 < signs.size) (hs2 : signs.size ≤ 100) (cs : List UInt8) (v : Value) (w : World) (most : Nat) (hmost : most ≤ 1000) (h1 : SlAt w v (cs.map B8)) :
    Calls Try.prog 33 #[.string signs, v, .int .i64 most] w fun e w' => (∃ r : ByteArray, e = .returned (.string r) ∧ bl r = odSome (bl signs) cs most) ∧ w' = w := by
  obtain ⟨a1, c1, rfl, hm1⟩ := h1.form
  simp only [List.length_map] at hm1 ⊢
  have H1 := Lib.hid h1
  have HBL := Lib.hid (bl_length signs)
  clear h1
  go_enter Try.func33, Try.ntmps33
  go_wp2
  go_loop [7, 8, 9] (fun o i q => ∃ (k : Nat) (r : ByteArray), k ≤ cs.length ∧ k ≤ most ∧ i = .int .i64 k ∧ o = .string r ∧ Hid (r.size = k) ∧ Hid (bl r = odSome (bl signs) cs k)) (fun _ i _ => most - (intOf i).toNat)
  case atStart => exact ⟨0, ⟨#[]⟩, Nat.zero_le _, Nat.zero_le _, rfl, rfl, Lib.hid rfl, Lib.hid (by simp [odSome, bl])⟩
  case round =>
    obtain ⟨k, r, hk1, hk2, rfl, rfl, HR, hb⟩ := hrel
    have hr1 : r.size ≤ 1000 := by have := HR.out; omega
    by_cases hlt : k < cs.length ∧ k < most
    · obtain ⟨hlt, hlm⟩ := hlt
      obtain ⟨b, o, rfl, hc1⟩ := H1.out.getU k hlt
      have hsn := odSome_snoc (bl signs) cs k hlt
      rw [HBL.out, ← hb.out] at hsn
      have ST := Lib.hid hsn
      clear hsn
      generalize nthU cs k = x at *
      have hx255 : x.toNat ≤ 255 := by have := x.toNat_lt; omega
      have hm0 : 0 ≤ (x.toNat : Int) % signs.size := Int.emod_nonneg _ (by omega)
      have hm1' : (x.toNat : Int) % signs.size < signs.size := Int.emod_lt_of_pos _ (by omega)
      go_wp2
      go_round
      case rel =>
        refine ⟨k + 1, _, by omega, by omega, by go_num, rfl, Lib.hid ?_, Lib.hid ?_⟩
        · rw [ByteArray.size_append', ByteArray.size_extract]; have := HR.out; have := Nat.mod_lt x.toNat hs; omega
        · rw [bl_append, bl_extract1 _ _ _ (Nat.mod_lt _ hs) (by omega), ST.out]
      case measure => simp [intOf]; omega
    · have hst : cs.take k = cs.take most := by
        by_cases h : k = most
        · rw [h]
        · rw [List.take_of_length_le (by omega), List.take_of_length_le (by omega)]
      have HF : Hid (bl r = odSome (bl signs) cs most) := Lib.hid (by rw [hb.out]; unfold odSome; rw [hst])
      clear hst
      by_cases hlt2 : k < cs.length
      · have : ¬ k < most := by omega
        go_wp2
        go_ret
        exact ⟨⟨r, rfl, HF.out⟩, rfl⟩
      · go_wp2
        go_ret
        exact ⟨⟨r, rfl, HF.out⟩, rfl⟩
end Go.Proofs.Ytpgddedhhjbgoaa
