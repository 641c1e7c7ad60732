/- Walks: spec.ODModules of EAN-8. -/
import Derived.Test.YtpgddedhhjbgoaaDoorEanB
namespace Go.Proofs.YtpgddedhhjbgoaaDoor
open Go.RowKit

theorem aaaa_get (k : Nat) (h : k < 4) : (⟨#[65, 65, 65, 65]⟩ : ByteArray)[k]'(show k < 4 from h) = 65 := by
  have : ∀ k, (h : k < 4) → (⟨#[65, 65, 65, 65]⟩ : ByteArray)[k]'(show k < 4 from h) = 65 := by decide
  exact this k h
theorem nthU_take (l : List UInt8) (n k : Nat) (h : k < n) : nthU (l.take n) k = nthU l k := by
  simp [nthU, List.getD, List.getElem?_take, h]
theorem nthU_drop (l : List UInt8) (n k : Nat) : nthU (l.drop n) k = nthU l (n + k) := by
  simp [nthU, List.getD, List.getElem?_drop]

set_option maxHeartbeats 2000000 in
set_option maxRecDepth 100000 in
theorem ODModules8_any (s : ByteArray) (hs : s.size = 8) (hd : allDig s) (w : World) :
    Calls Tryd.prog 9 #[.int .i64 6, .string s] w fun e w' => (∃ v, e = .returned v ∧ w'.ownsRow w.heap.size 4 1 v (eanRow ((bl s).take 4) [65, 65, 65, 65] ((bl s).drop 4)).length ((eanRow ((bl s).take 4) [65, 65, 65, 65] ((bl s).drop 4)).map .bool)) ∧ Below w.heap.size w w' := by
  have hbl : (bl s).length = 8 := by rw [bl_length]; exact hs
  have hll : ((bl s).take 4).length = 4 := by rw [List.length_take, hbl]; rfl
  have hrl : ((bl s).drop 4).length = 4 := by rw [List.length_drop, hbl]
  have HLD : Hid (∀ k, k < 4 → isDig (nthU ((bl s).take 4) k)) := Lib.hid (fun k hk => by rw [nthU_take _ _ _ hk]; exact hd k (by omega))
  have HRD : Hid (∀ k, k < 4 → isDig (nthU ((bl s).drop 4) k)) := Lib.hid (fun k hk => by rw [nthU_drop]; exact hd (4 + k) (by omega))
  have HX : Hid (bl (s.extract 0 4) = (bl s).take 4) := Lib.hid (by rw [bl_extract]; rfl)
  have HXS : (s.extract 0 4).size = 4 := by rw [← bl_length, HX.out, hll]
  have HSR : Hid (∀ k, (h : k < 4) → s[4 + k]'(by omega) = nthU ((bl s).drop 4) k) := Lib.hid (fun k hk => by rw [nthU_drop]; exact bl_get s (4 + k) (by omega))
  have HLL := Lib.hid hll
  have HRL := Lib.hid hrl
  generalize hlf : (bl s).take 4 = left at *
  generalize hrt : (bl s).drop 4 = right at *
  clear hd hbl hlf hrt hll hrl
  go_enter Tryd.func9, Tryd.ntmps9
  go_wp2_with fail
  refine (odBars_any w.heap.size [] [1, 1, 1] ⟨#[49, 49, 49]⟩ rfl (by decide) (by decide) (by decide) _ true _ (World.ownsRow_nil _ _ _ _) (Nat.le_refl _)).mono ?_
  rintro e w1 ⟨⟨v1, rfl, hown1⟩, hb1⟩
  rw [show [] ++ barsFrom true [1, 1, 1] = eanL left [65, 65, 65, 65] 0 by simp [eanL, leftM]] at hown1
  go_wp2
  generalize s.extract 0 4 = ls at *
  go_loopw [5, 10, 52] (fun o _ i wr => ∃ k : Nat, k ≤ 4 ∧ i = .int .i64 k ∧ wr.ownsRow w.heap.size 4 1 o (eanL left [65, 65, 65, 65] k).length ((eanL left [65, 65, 65, 65] k).map .bool) ∧ Below w.heap.size w wr) (fun _ _ i _ => 4 - (intOf i).toNat)
  case atStart => exact ⟨0, Nat.zero_le _, rfl, hown1, hb1⟩
  case round =>
    clear hown1 hb1
    obtain ⟨k, hk, rfl, hown, hb⟩ := hrel
    have hel := eanL_length left [65, 65, 65, 65] k (fun i hi => HLD.out i (by omega))
    have hel2 : (eanL left [65, 65, 65, 65] k).length ≤ 100 := by omega
    clear hel
    have hsz := hb.size
    by_cases hlt : k < 4
    · have hbyte := bl_get ls k (by omega)
      rw [HX.out] at hbyte
      have haa := aaaa_get k hlt
      have hnx : Hid (eanL left [65, 65, 65, 65] (k + 1) = eanL left [65, 65, 65, 65] k ++ dmods 65 (nthU left k)) := Lib.hid (by
        rw [eanL_succ]
        have : ∀ k, k < 4 → nthU [65, 65, 65, 65] k = 65 := by decide
        rw [this k hlt])
      have HDK := Lib.hid (HLD.out k hlt)
      generalize nthU left k = c at *
      generalize eanL left [65, 65, 65, 65] k = M at *
      have hltI : (k : Int) < 4 := by omega
      go_wp2_with fail
      go_region_with (go_at_call 19; refine (odDigit_any w.heap.size M 65 c HDK.out (by omega) _ _ (own_drewN hown 1) hsz).mono ?_; rintro e w3 ⟨⟨v3, rfl, hown3⟩, hb3⟩)
      all_goals
        have hb3w : Below w.heap.size w w3 := (below_drewN' hb 1).trans hb3
        rw [← hnx.out] at hown3
        clear hb3 hb hown
        go_wp2
        go_roundw
        case rel => exact ⟨k + 1, by omega, by go_num, hown3, hb3w⟩
        case measure => simp [intOf]; omega
    · have hk4 : k = 4 := by omega
      subst hk4
      have hM5 : Hid (eanR left [65, 65, 65, 65] right 0 = eanL left [65, 65, 65, 65] 4 ++ barsFrom false [1, 1, 1, 1, 1]) := Lib.hid (by
        rw [eanR, HLL.out]; simp [rightM])
      generalize eanL left [65, 65, 65, 65] 4 = M at *
      go_wp2_with fail
      refine (odBars_any w.heap.size M [1, 1, 1, 1, 1] ⟨#[49, 49, 49, 49, 49]⟩ rfl (by decide) (by decide) (by omega) _ false _ hown hsz).mono ?_
      rintro e w4 ⟨⟨v4, rfl, hown4⟩, hb4⟩
      have hb4w := hb.trans hb4
      rw [← hM5.out] at hown4
      clear hown hb hb4 hsz hM5 hel2
      go_wp2
      go_loopw [5, 11] (fun o i wr => ∃ k : Nat, k ≤ 4 ∧ i = .int .i64 ((4 : Int) + k) ∧ wr.ownsRow w.heap.size 4 1 o (eanR left [65, 65, 65, 65] right k).length ((eanR left [65, 65, 65, 65] right k).map .bool) ∧ Below w.heap.size w wr) (fun _ i _ => 8 - (intOf i).toNat)
      case atStart => exact ⟨0, Nat.zero_le _, by simp, hown4, hb4w⟩
      case round =>
        clear hown4 hb4w
        obtain ⟨k, hk, rfl, hown, hb⟩ := hrel
        have hel := eanR_length left [65, 65, 65, 65] right k (fun i hi => HLD.out i (by have := HLL.out; omega)) (fun i hi => HRD.out i (by omega))
        have hel2 : (eanR left [65, 65, 65, 65] right k).length ≤ 200 := by have := HLL.out; omega
        clear hel
        have hsz := hb.size
        by_cases hlt : k < 4
        · have hbyte := HSR.out k hlt
          have hnx : Hid (eanR left [65, 65, 65, 65] right (k + 1) = eanR left [65, 65, 65, 65] right k ++ dmods 67 (nthU right k)) := Lib.hid (eanR_succ _ _ _ _)
          have HDK := Lib.hid (HRD.out k hlt)
          generalize nthU right k = c at *
          generalize eanR left [65, 65, 65, 65] right k = M2 at *
          have htn : ((4 : Int) + (k : Int)).toNat = 4 + k := by omega
          go_wp2_with fail
          refine (odDigit_any w.heap.size M2 67 c HDK.out (by omega) _ _ hown hsz).mono ?_
          rintro e w5 ⟨⟨v5, rfl, hown5⟩, hb5⟩
          have hb5w := hb.trans hb5
          rw [← hnx.out] at hown5
          clear hown hb hb5 htn hbyte
          go_wp2
          go_roundw
          case rel => exact ⟨k + 1, by omega, by go_num, hown5, hb5w⟩
          case measure => simp [intOf]; omega
        · have hk4 : k = 4 := by omega
          subst hk4
          have hfin : Hid (eanRow left [65, 65, 65, 65] right = eanR left [65, 65, 65, 65] right 4 ++ barsFrom true [1, 1, 1]) := Lib.hid (by rw [eanRow, HRL.out])
          generalize eanR left [65, 65, 65, 65] right 4 = M2 at *
          go_wp2_with fail
          refine (odBars_any w.heap.size M2 [1, 1, 1] ⟨#[49, 49, 49]⟩ rfl (by decide) (by decide) (by omega) _ true _ hown hsz).mono ?_
          rintro e w6 ⟨⟨v6, rfl, hown6⟩, hb6⟩
          have hb6w := hb.trans hb6
          rw [← hfin.out] at hown6
          clear hown hb hb6
          go_wp2
          go_ret
          exact ⟨⟨_, rfl, hown6⟩, hb6w⟩
end Go.Proofs.YtpgddedhhjbgoaaDoor
