/- Walks: spec.odSets, spec.ODModules of EAN-13. (Printed by gen13.py.) -/
import Derived.Test.YtpgddedhhjbgoaaDoorEanM
namespace Go.Proofs.YtpgddedhhjbgoaaDoor
open Go.RowKit

def sets13T : List ByteArray := [⟨#[65, 65, 65, 65, 65, 65]⟩, ⟨#[65, 65, 66, 65, 66, 66]⟩, ⟨#[65, 65, 66, 66, 65, 66]⟩, ⟨#[65, 65, 66, 66, 66, 65]⟩, ⟨#[65, 66, 65, 65, 66, 66]⟩, ⟨#[65, 66, 66, 65, 65, 66]⟩, ⟨#[65, 66, 66, 66, 65, 65]⟩, ⟨#[65, 66, 65, 66, 65, 66]⟩, ⟨#[65, 66, 65, 66, 66, 65]⟩, ⟨#[65, 66, 66, 65, 66, 65]⟩]
/-- The sets of the left digits by the first digit. -/
def sets13 (c : UInt8) : List UInt8 := bl (sets13T.getD (c.toNat - 48) ⟨#[]⟩)
theorem sets13_length {c : UInt8} (h : isDig c) : (sets13 c).length = 6 := by
  have : ∀ d, d < 10 → (bl (sets13T.getD d ⟨#[]⟩)).length = 6 := by decide
  exact this _ (by unfold isDig at h; omega)

set_option maxHeartbeats 1000000 in
set_option maxRecDepth 100000 in
theorem odSets_any (c : UInt8) (h : isDig c) (w : World) :
    Calls Tryd.prog 20 #[.int .u8 (c.toNat : Int)] w fun e w' => (∃ r : ByteArray, e = .returned (.string r) ∧ bl r = sets13 c) ∧ Below w.heap.size w w' := by
  obtain ⟨h1, h2⟩ := h
  obtain ⟨d, hd⟩ : ∃ d, c.toNat = 48 + d := ⟨c.toNat - 48, by omega⟩
  have hd10 : d < 10 := by omega
  have HB : Hid (bl (sets13T.getD d ⟨#[]⟩) = sets13 c) := Lib.hid (by rw [sets13, show c.toNat - 48 = d by omega])
  rw [hd]
  clear hd h1 h2
  go_enter Tryd.func20, Tryd.ntmps20
  go_wp2
  go_ret
  exact ⟨⟨_, congrArg Ending.returned (str_get sets13T d hd10), HB.out⟩, below_alloc _ _⟩

set_option maxHeartbeats 2000000 in
set_option maxRecDepth 100000 in
theorem ODModules13_any (s : ByteArray) (hs : s.size = 13) (hd : allDig s) (w : World) :
    Calls Tryd.prog 9 #[.int .i64 7, .string s] w fun e w' => (∃ v, e = .returned v ∧ w'.ownsRow w.heap.size 4 1 v (eanRow ((bl s).extract 1 7) (sets13 (nthU (bl s) 0)) ((bl s).drop 7)).length ((eanRow ((bl s).extract 1 7) (sets13 (nthU (bl s) 0)) ((bl s).drop 7)).map .bool)) ∧ Below w.heap.size w w' := by
  have hbl : (bl s).length = 13 := by rw [bl_length]; exact hs
  have hx : (bl s).extract 1 7 = ((bl s).take 7).drop 1 := by rw [List.extract_eq_take_drop, List.drop_take]
  have hll : ((bl s).extract 1 7).length = 6 := by rw [hx, List.length_drop, List.length_take, hbl]; rfl
  have hrl : ((bl s).drop 7).length = 6 := by rw [List.length_drop, hbl]
  have hln : ∀ k, k < 6 → nthU ((bl s).extract 1 7) k = nthU (bl s) (1 + k) := fun k hk => by rw [hx, nthU_drop, nthU_take _ _ _ (by omega)]
  have HLD : Hid (∀ k, k < 6 → isDig (nthU ((bl s).extract 1 7) k)) := Lib.hid (fun k hk => by rw [hln k hk]; exact hd (1 + k) (by omega))
  have HRD : Hid (∀ k, k < 6 → isDig (nthU ((bl s).drop 7) k)) := Lib.hid (fun k hk => by rw [nthU_drop]; exact hd (7 + k) (by omega))
  have HX : Hid (bl (s.extract 1 7) = (bl s).extract 1 7) := Lib.hid (by rw [bl_extract, hx])
  have HXS : (s.extract 1 7).size = 6 := by rw [← bl_length, HX.out, hll]
  have HSR : Hid (∀ k, (h : k < 6) → s[7 + k]'(by omega) = nthU ((bl s).drop 7) k) := Lib.hid (fun k hk => by rw [nthU_drop]; exact bl_get s (7 + k) (by omega))
  have HLL := Lib.hid hll
  have HRL := Lib.hid hrl
  have hd0 := hd 0 (by omega)
  have hg0 := bl_get s 0 (by omega)
  have HSL := Lib.hid (sets13_length hd0)
  generalize nthU (bl s) 0 = c0 at *
  generalize hse : sets13 c0 = sets at *
  have HSE := Lib.hid hse
  have HD0 := Lib.hid hd0
  generalize hlf : (bl s).extract 1 7 = left at *
  generalize hrt : (bl s).drop 7 = right at *
  clear hd hbl hlf hrt hll hrl hx hln hse hd0
  go_enter Tryd.func9, Tryd.ntmps9
  go_wp2_with fail
  refine (odBars_any w.heap.size [] [1, 1, 1] ⟨#[49, 49, 49]⟩ rfl (by decide) (by decide) (by decide) _ true _ (World.ownsRow_nil _ _ _ _) (Nat.le_refl _)).mono ?_
  rintro e w1 ⟨⟨v1, rfl, hown1⟩, hb1⟩
  rw [show [] ++ barsFrom true [1, 1, 1] = eanL left sets 0 by simp [eanL, leftM]] at hown1
  have hown1' := own_drewN hown1 1
  have hb1' := below_drewN' hb1 1
  clear hown1 hb1
  go_wp2_with fail
  go_region_with (go_at_call 20; refine (odSets_any c0 HD0.out _).mono ?_; rintro e w2 ⟨⟨ss, rfl, hss⟩, hb2⟩)
  all_goals
    rw [HSE.out] at hss
    have HSS := Lib.hid hss
    have hssl : ss.size = 6 := by rw [← bl_length, hss]; exact HSL.out
    have hown1 := own_below hown1' hb2
    have hb1 := Below.two hb1' hb2 hb1'.size
    clear hss hown1' hb1' hb2 hg0
    go_wp2
    generalize s.extract 1 7 = ls at *
    go_loopw [5, 10, 52] (fun o _ i wr => ∃ k : Nat, k ≤ 6 ∧ i = .int .i64 k ∧ wr.ownsRow w.heap.size 4 1 o (eanL left sets k).length ((eanL left sets k).map .bool) ∧ Below w.heap.size w wr) (fun _ _ i _ => 6 - (intOf i).toNat)
    case atStart => exact ⟨0, Nat.zero_le _, rfl, hown1, hb1⟩
    case round =>
      clear hown1 hb1
      obtain ⟨k, hk, rfl, hown, hb⟩ := hrel
      have hel := eanL_length left sets k (fun i hi => HLD.out i (by omega))
      have hel2 : (eanL left sets k).length ≤ 100 := by omega
      clear hel
      have hsz := hb.size
      by_cases hlt : k < 6
      · have hbyte := bl_get ls k (by omega)
        rw [HX.out] at hbyte
        have hsb := bl_get ss k (by omega)
        rw [HSS.out] at hsb
        have hnx : Hid (eanL left sets (k + 1) = eanL left sets k ++ dmods (nthU sets k) (nthU left k)) := Lib.hid (eanL_succ _ _ _)
        have HDK := Lib.hid (HLD.out k hlt)
        generalize nthU left k = c at *
        generalize nthU sets k = se at *
        generalize eanL left sets k = M at *
        have hltI : (k : Int) < 6 := by omega
        go_wp2_with fail
        go_region_with (go_at_call 19; refine (odDigit_any w.heap.size M se c HDK.out (by omega) _ _ (own_drewN hown 1) hsz).mono ?_; rintro e w3 ⟨⟨v3, rfl, hown3⟩, hb3⟩)
        all_goals
          have hb3w : Below w.heap.size w w3 := (below_drewN' hb 1).trans hb3
          rw [← hnx.out] at hown3
          clear hb3 hb hown
          go_wp2
          go_roundw
          case rel => exact ⟨k + 1, by omega, by go_num, hown3, hb3w⟩
          case measure => simp [intOf]; omega
      · have hk6 : k = 6 := by omega
        subst hk6
        have hM5 : Hid (eanR left sets right 0 = eanL left sets 6 ++ barsFrom false [1, 1, 1, 1, 1]) := Lib.hid (by
          rw [eanR, HLL.out]; simp [rightM])
        generalize eanL left sets 6 = M at *
        go_wp2_with fail
        refine (odBars_any w.heap.size M [1, 1, 1, 1, 1] ⟨#[49, 49, 49, 49, 49]⟩ rfl (by decide) (by decide) (by omega) _ false _ hown hsz).mono ?_
        rintro e w4 ⟨⟨v4, rfl, hown4⟩, hb4⟩
        have hb4w := hb.trans hb4
        rw [← hM5.out] at hown4
        clear hown hb hb4 hsz hM5 hel2
        go_wp2
        go_loopw [5, 11] (fun o i wr => ∃ k : Nat, k ≤ 6 ∧ i = .int .i64 ((7 : Int) + k) ∧ wr.ownsRow w.heap.size 4 1 o (eanR left sets right k).length ((eanR left sets right k).map .bool) ∧ Below w.heap.size w wr) (fun _ i _ => 13 - (intOf i).toNat)
        case atStart => exact ⟨0, Nat.zero_le _, by simp, hown4, hb4w⟩
        case round =>
          clear hown4 hb4w
          obtain ⟨k, hk, rfl, hown, hb⟩ := hrel
          have hel := eanR_length left sets right k (fun i hi => HLD.out i (by have := HLL.out; omega)) (fun i hi => HRD.out i (by omega))
          have hel2 : (eanR left sets right k).length ≤ 200 := by have := HLL.out; omega
          clear hel
          have hsz := hb.size
          by_cases hlt : k < 6
          · have hbyte := HSR.out k hlt
            have hnx : Hid (eanR left sets right (k + 1) = eanR left sets right k ++ dmods 67 (nthU right k)) := Lib.hid (eanR_succ _ _ _ _)
            have HDK := Lib.hid (HRD.out k hlt)
            generalize nthU right k = c at *
            generalize eanR left sets right k = M2 at *
            have htn : ((7 : Int) + (k : Int)).toNat = 7 + k := by omega
            go_wp2_with fail
            refine (odDigit_any w.heap.size M2 67 c HDK.out (by omega) _ _ hown hsz).mono ?_
            rintro e w5 ⟨⟨v5, rfl, hown5⟩, hb5⟩
            have hb5w := hb.trans hb5
            rw [← hnx.out] at hown5
            clear hown hb hb5 htn hbyte
            go_wp2
            go_roundw
            case rel => exact ⟨k + 1, by omega, by go_num, hown5, hb5w⟩
            case measure => simp [intOf]; omega
          · have hk6 : k = 6 := by omega
            subst hk6
            have hfin : Hid (eanRow left sets right = eanR left sets right 6 ++ barsFrom true [1, 1, 1]) := Lib.hid (by rw [eanRow, HRL.out])
            generalize eanR left sets right 6 = M2 at *
            go_wp2_with fail
            refine (odBars_any w.heap.size M2 [1, 1, 1] ⟨#[49, 49, 49]⟩ rfl (by decide) (by decide) (by omega) _ true _ hown hsz).mono ?_
            rintro e w6 ⟨⟨v6, rfl, hown6⟩, hb6⟩
            have hb6w := hb.trans hb6
            rw [← hfin.out] at hown6
            clear hown hb hb6
            go_wp2
            go_ret
            exact ⟨⟨_, rfl, hown6⟩, hb6w⟩
end Go.Proofs.YtpgddedhhjbgoaaDoor
