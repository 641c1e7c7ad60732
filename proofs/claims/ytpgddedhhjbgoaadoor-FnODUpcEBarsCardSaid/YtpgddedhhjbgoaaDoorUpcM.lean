/- Walks: spec.ODModules of UPC-E. -/
import Derived.Test.YtpgddedhhjbgoaaDoorUpcC
import Derived.Test.YtpgddedhhjbgoaaDoorEanB
namespace Go.Proofs.YtpgddedhhjbgoaaDoor
open Go.RowKit

/-- The row of digits of UPC-E. -/
def rowE (left sets : List UInt8) : List Bool := eanL left sets 6 ++ barsFrom false [1, 1, 1, 1, 1, 1]
theorem setsE_length {f c : UInt8} (h : isDig c) : (setsE f c).length = 6 := by
  have hh := setsET_ab (c.toNat - 48) (by unfold isDig at h; omega)
  unfold setsE
  simp only
  split
  · exact hh.1
  · rw [List.length_map]; exact hh.1
theorem setsE_ab {f c : UInt8} (h : isDig c) (k : Nat) (hk : k < 6) : nthU (setsE f c) k = 65 ∨ nthU (setsE f c) k = 66 := by
  have hh := setsET_ab (c.toNat - 48) (by unfold isDig at h; omega)
  have hm := nthU_mem' (l := setsE f c) (k := k) (by rw [setsE_length h]; exact hk)
  generalize nthU (setsE f c) k = x at *
  unfold setsE at hm
  simp only at hm
  split at hm
  · exact hh.2 x hm
  · obtain ⟨y, hy, rfl⟩ := List.mem_map.1 hm
    rcases hh.2 y hy with rfl | rfl <;> decide

set_option maxHeartbeats 2000000 in
set_option maxRecDepth 100000 in
theorem ODModulesE_any (s : ByteArray) (hs : s.size = 8) (hd : allDig s) (w : World) :
    Calls Tryd.prog 9 #[.int .i64 15, .string s] w fun e w' => (∃ v, e = .returned v ∧ w'.ownsRow w.heap.size 4 1 v (rowE ((bl s).extract 1 7) (setsE (nthU (bl s) 0) (nthU (bl s) 7))).length ((rowE ((bl s).extract 1 7) (setsE (nthU (bl s) 0) (nthU (bl s) 7))).map .bool)) ∧ Below w.heap.size w w' := by
  have hbl : (bl s).length = 8 := by rw [bl_length]; exact hs
  have hx : (bl s).extract 1 7 = ((bl s).take 7).drop 1 := by rw [List.extract_eq_take_drop, List.drop_take]
  have hln : ∀ k, k < 6 → nthU ((bl s).extract 1 7) k = nthU (bl s) (1 + k) := fun k hk => by
    rw [hx]; simp only [nthU, List.getD, List.getElem?_drop, List.getElem?_take]; rw [if_pos (by omega)]
  have HLD : Hid (∀ k, k < 6 → isDig (nthU ((bl s).extract 1 7) k)) := Lib.hid (fun k hk => by rw [hln k hk]; exact hd (1 + k) (by omega))
  have HSR : Hid (∀ k, (h : k < 6) → s[1 + k]'(by omega) = nthU ((bl s).extract 1 7) k) := Lib.hid (fun k hk => by rw [hln k hk]; exact bl_get s (1 + k) (by omega))
  have hd0 := hd 0 (by omega)
  have hd7 := hd 7 (by omega)
  have hg0 := bl_get s 0 (by omega)
  have hg7 := bl_get s 7 (by omega)
  have HSL := Lib.hid (setsE_length (f := nthU (bl s) 0) hd7)
  generalize nthU (bl s) 0 = c0 at *
  generalize nthU (bl s) 7 = c7 at *
  generalize hse : setsE c0 c7 = sets at *
  have HSE := Lib.hid hse
  have HD0 := Lib.hid hd0
  have HD7 := Lib.hid hd7
  generalize hlf : (bl s).extract 1 7 = left at *
  clear hd hbl hlf hx hln hse hd0 hd7
  go_enter Tryd.func9, Tryd.ntmps9
  go_wp2_with fail
  refine (odBars_any w.heap.size [] [1, 1, 1] ⟨#[49, 49, 49]⟩ rfl (by decide) (by decide) (by decide) _ true _ (World.ownsRow_nil _ _ _ _) (Nat.le_refl _)).mono ?_
  rintro e w1 ⟨⟨v1, rfl, hown1⟩, hb1⟩
  rw [show [] ++ barsFrom true [1, 1, 1] = eanL left sets 0 by simp [eanL, leftM]] at hown1
  have hown1' := own_drewN hown1 1
  have hb1' := below_drewN' hb1 1
  clear hown1 hb1
  go_wp2_with fail
  go_region_with (go_at_call 18; refine (odSetsE_any c0 c7 HD0.out HD7.out _).mono ?_; rintro e w2 ⟨⟨ss, rfl, hss⟩, hb2⟩)
  all_goals
    rw [HSE.out] at hss
    have HSS := Lib.hid hss
    have hssl : ss.size = 6 := by rw [← bl_length, hss]; exact HSL.out
    have hown1 := own_below hown1' hb2
    have hb1 := Below.two hb1' hb2 hb1'.size
    clear hss hown1' hb1' hb2 hg0 hg7
    go_wp2
    go_loopw [5, 7, 21] (fun o _ i wr => ∃ k : Nat, k ≤ 6 ∧ i = .int .i64 k ∧ wr.ownsRow w.heap.size 4 1 o (eanL left sets k).length ((eanL left sets k).map .bool) ∧ Below w.heap.size w wr) (fun _ _ i _ => 6 - (intOf i).toNat)
    case atStart => exact ⟨0, Nat.zero_le _, rfl, hown1, hb1⟩
    case round =>
      clear hown1 hb1
      obtain ⟨k, hk, rfl, hown, hb⟩ := hrel
      have hel := eanL_length left sets k (fun i hi => HLD.out i (by omega))
      have hel2 : (eanL left sets k).length ≤ 100 := by omega
      clear hel
      have hsz := hb.size
      by_cases hlt : k < 6
      · have hbyte := HSR.out k hlt
        have hsb := bl_get ss k (by omega)
        rw [HSS.out] at hsb
        have hnx : Hid (eanL left sets (k + 1) = eanL left sets k ++ dmods (nthU sets k) (nthU left k)) := Lib.hid (eanL_succ _ _ _)
        have HDK := Lib.hid (HLD.out k hlt)
        generalize nthU left k = c at *
        generalize nthU sets k = se at *
        generalize eanL left sets k = M at *
        have hltI : (k : Int) < 6 := by omega
        have htn : ((1 : Int) + (k : Int)).toNat = 1 + k := by omega
        have hI0 : (0 : Int) ≤ 1 + (k : Int) := by omega
        have hI1 : (1 : Int) + (k : Int) < 8 := by omega
        have hI2 : IntKind.i64.wrap ((1 : Int) + (k : Int)) = 1 + (k : Int) := by rw [IntKind.wrap_i64]; omega
        go_wp2_with fail
        go_region_with (go_at_call 19; refine (odDigit_any w.heap.size M se c HDK.out (by omega) _ _ (own_drewN hown 1) hsz).mono ?_; rintro e w3 ⟨⟨v3, rfl, hown3⟩, hb3⟩)
        all_goals
          have hb3w : Below w.heap.size w w3 := (below_drewN' hb 1).trans hb3
          rw [← hnx.out] at hown3
          clear hb3 hb hown
          go_wp2
          go_roundw
          case rel => exact ⟨k + 1, by omega, by go_num, hown3, hb3w⟩
          case measure => simp [intOf]; omega
      · have hk6 : k = 6 := by omega
        subst hk6
        have hfin : Hid (rowE left sets = eanL left sets 6 ++ barsFrom false [1, 1, 1, 1, 1, 1]) := Lib.hid rfl
        generalize eanL left sets 6 = M at *
        go_wp2_with fail
        refine (odBars_any w.heap.size M [1, 1, 1, 1, 1, 1] ⟨#[49, 49, 49, 49, 49, 49]⟩ rfl (by decide) (by decide) (by omega) _ false _ hown hsz).mono ?_
        rintro e w6 ⟨⟨v6, rfl, hown6⟩, hb6⟩
        have hb6w := hb.trans hb6
        rw [← hfin.out] at hown6
        clear hown hb hb6
        go_wp2
        go_ret
        exact ⟨⟨_, rfl, hown6⟩, hb6w⟩
end Go.Proofs.YtpgddedhhjbgoaaDoor
