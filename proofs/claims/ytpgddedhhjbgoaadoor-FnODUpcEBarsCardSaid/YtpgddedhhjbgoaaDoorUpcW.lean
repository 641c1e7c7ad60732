/- Walks: spec.ODWide, spec.odSetsE; the tables of UPC-E. -/
import Derived.Test.YtpgddedhhjbgoaaDoorEanC
import Derived.Test.YtpgddedhhjbgoaaDoorEanT
namespace Go.Proofs.YtpgddedhhjbgoaaDoor
open Go.RowKit

/-- The digits of UPC-A (without the check digit) that seven digits of UPC-E stand for. -/
def wideE (ds : List UInt8) : List UInt8 :=
  let l := (nthU ds 6).toNat
  if l ≤ 50 then ds.take 1 ++ ((ds.drop 1).take 2) ++ ((ds.drop 1).drop 5) ++ [48, 48, 48, 48] ++ (((ds.drop 1).take 5).drop 2)
  else if l = 51 then ds.take 1 ++ ((ds.drop 1).take 3) ++ [48, 48, 48, 48, 48] ++ (((ds.drop 1).take 5).drop 3)
  else if l = 52 then ds.take 1 ++ ((ds.drop 1).take 4) ++ [48, 48, 48, 48, 48] ++ (((ds.drop 1).take 5).drop 4)
  else ds.take 1 ++ ((ds.drop 1).take 5) ++ [48, 48, 48, 48] ++ ((ds.drop 1).drop 5)

set_option maxHeartbeats 1000000 in
set_option maxRecDepth 100000 in
theorem ODWide_any (s : ByteArray) (hs : s.size = 7) (hd : allDig s) (w : World) :
    Calls Tryd.prog 14 #[.string s] w fun e w' => (∃ r : ByteArray, e = .returned (.string r) ∧ bl r = wideE (bl s)) ∧ ∃ n, w' = w.drewN n := by
  have hx : s.extract 1 s.size = s.extract 1 7 := by rw [hs]
  obtain ⟨D, hDdef⟩ : ∃ D, s.extract 1 7 = D := ⟨_, rfl⟩
  obtain ⟨N, hNdef⟩ : ∃ N, s.extract 0 1 = N := ⟨_, rfl⟩
  have hD : bl D = (bl s).drop 1 := by
    rw [← hDdef, bl_extract, List.take_of_length_le (by rw [bl_length]; omega)]
  have hN : bl N = (bl s).take 1 := by rw [← hNdef, bl_extract]; rfl
  have hNs : N.size = 1 := by rw [← hNdef, ByteArray.size_extract]; omega
  have hDs : D.size = 6 := by rw [← hDdef, ByteArray.size_extract]; omega
  have hb5 : D[5]'(by omega) = nthU (bl s) 6 := by
    rw [bl_get _ 5 (by omega), hD]; simp [nthU, List.getD, List.getElem?_drop]
  obtain ⟨h1, h2⟩ := hd 6 (by omega)
  have HW : Hid (wideE (bl s) = if (nthU (bl s) 6).toNat ≤ 50 then (bl s).take 1 ++ (((bl s).drop 1).take 2) ++ (((bl s).drop 1).drop 5) ++ [48, 48, 48, 48] ++ ((((bl s).drop 1).take 5).drop 2)
    else if (nthU (bl s) 6).toNat = 51 then (bl s).take 1 ++ (((bl s).drop 1).take 3) ++ [48, 48, 48, 48, 48] ++ ((((bl s).drop 1).take 5).drop 3)
    else if (nthU (bl s) 6).toNat = 52 then (bl s).take 1 ++ (((bl s).drop 1).take 4) ++ [48, 48, 48, 48, 48] ++ ((((bl s).drop 1).take 5).drop 4)
    else (bl s).take 1 ++ (((bl s).drop 1).take 5) ++ [48, 48, 48, 48] ++ (((bl s).drop 1).drop 5)) := Lib.hid rfl
  have HD := Lib.hid hD
  have HN := Lib.hid hN
  generalize nthU (bl s) 6 = l at *
  clear hD hN hd
  go_enter Tryd.func14, Tryd.ntmps14
  go_wp2_with fail
  go_region
  have h6 : (bl D).take 6 = bl D := List.take_of_length_le (by rw [bl_length]; omega)
  by_cases c1 : l.toNat ≤ 50
  · have HR : Hid (bl (N ++ D.extract 0 2 ++ D.extract 5 6 ++ ⟨#[48, 48, 48, 48]⟩ ++ D.extract 2 5) = wideE (bl s)) := Lib.hid (by
      rw [HW.out, if_pos c1, bl_append, bl_append, bl_append]
      simp only [bl_append, bl_extract, HN.out, List.drop_zero, h6]
      rw [HD.out]; rfl)
    go_wp2_with fail
    go_region
    go_wp2
    go_ret
    exact ⟨⟨_, rfl, HR.out⟩, 2, rfl⟩
  · by_cases c2 : l.toNat = 51
    · have HR : Hid (bl (N ++ D.extract 0 3 ++ ⟨#[48, 48, 48, 48, 48]⟩ ++ D.extract 3 5) = wideE (bl s)) := Lib.hid (by
        rw [HW.out, if_neg c1, if_pos c2, bl_append, bl_append, bl_append]
        simp only [bl_append, bl_extract, HN.out, List.drop_zero, h6]
        rw [HD.out]; rfl)
      go_wp2_with fail
      go_region
      go_wp2
      go_ret
      exact ⟨⟨_, rfl, HR.out⟩, 2, rfl⟩
    · have q51 : ((l.toNat : Int) == 51) = false := by rw [beq_eq_false_iff_ne]; omega
      by_cases c3 : l.toNat = 52
      · have HR : Hid (bl (N ++ D.extract 0 4 ++ ⟨#[48, 48, 48, 48, 48]⟩ ++ D.extract 4 5) = wideE (bl s)) := Lib.hid (by
          rw [HW.out, if_neg c1, if_neg c2, if_pos c3, bl_append, bl_append, bl_append]
          simp only [bl_append, bl_extract, HN.out, List.drop_zero, h6]
          rw [HD.out]; rfl)
        go_wp2_with fail
        go_region
        go_wp2
        go_ret
        exact ⟨⟨_, rfl, HR.out⟩, 2, rfl⟩
      · have q52 : ((l.toNat : Int) == 52) = false := by rw [beq_eq_false_iff_ne]; omega
        have HR : Hid (bl (N ++ D.extract 0 5 ++ ⟨#[48, 48, 48, 48]⟩ ++ D.extract 5 6) = wideE (bl s)) := Lib.hid (by
          rw [HW.out, if_neg c1, if_neg c2, if_neg c3, bl_append, bl_append, bl_append]
          simp only [bl_append, bl_extract, HN.out, List.drop_zero, h6]
          rw [HD.out]; rfl)
        go_wp2_with fail
        go_region
        go_wp2
        go_ret
        exact ⟨⟨_, rfl, HR.out⟩, 2, rfl⟩

/-- The sets of the six digits of UPC-E: by the check digit, for the first digit 0; turned round for 1. -/
def setsET : List ByteArray := [⟨#[66, 66, 66, 65, 65, 65]⟩, ⟨#[66, 66, 65, 66, 65, 65]⟩, ⟨#[66, 66, 65, 65, 66, 65]⟩, ⟨#[66, 66, 65, 65, 65, 66]⟩, ⟨#[66, 65, 66, 66, 65, 65]⟩, ⟨#[66, 65, 65, 66, 66, 65]⟩, ⟨#[66, 65, 65, 65, 66, 66]⟩, ⟨#[66, 65, 66, 65, 66, 65]⟩, ⟨#[66, 65, 66, 65, 65, 66]⟩, ⟨#[66, 65, 65, 66, 65, 66]⟩]
def turned (x : UInt8) : UInt8 := if x = 65 then 66 else 65
def setsE (first check : UInt8) : List UInt8 :=
  let t := bl (setsET.getD (check.toNat - 48) ⟨#[]⟩)
  if first.toNat = 48 then t else t.map turned
theorem setsET_ab : ∀ d, d < 10 → (bl (setsET.getD d ⟨#[]⟩)).length = 6 ∧ ∀ x ∈ bl (setsET.getD d ⟨#[]⟩), x = 65 ∨ x = 66 := by decide

set_option maxHeartbeats 1000000 in
set_option maxRecDepth 100000 in
theorem odSetsE_any (f c : UInt8) (hf : isDig f) (h : isDig c) (w : World) :
    Calls Tryd.prog 18 #[.int .u8 (f.toNat : Int), .int .u8 (c.toNat : Int)] w fun e w' => (∃ r : ByteArray, e = .returned (.string r) ∧ bl r = setsE f c) ∧ Below w.heap.size w w' := by
  obtain ⟨h1, h2⟩ := h
  obtain ⟨g1, g2⟩ := hf
  obtain ⟨d, hd⟩ : ∃ d, c.toNat = 48 + d := ⟨c.toNat - 48, by omega⟩
  have hd10 : d < 10 := by omega
  obtain ⟨hl6, hab⟩ := setsET_ab d hd10
  have HS : Hid (setsE f c = if f.toNat = 48 then bl (setsET.getD d ⟨#[]⟩) else (bl (setsET.getD d ⟨#[]⟩)).map turned) := Lib.hid (by rw [setsE, show c.toNat - 48 = d by omega])
  have hcell : ∀ w : World, (w.alloc (.cells (setsET.map Value.string).toArray 9)).cell? ⟨w.heap.size, d, none⟩ = some (.string (setsET.getD d ⟨#[]⟩)) := fun w => by
    rw [cell_of_row (w.alloc _) w.heap.size d _ 9 (0, 0) (heap_alloc_new w _)]
    have : d < setsET.length := hd10
    simp [List.getD, this]
  rw [hd]
  clear h1 h2 hd
  by_cases h0 : f.toNat = 48
  · rw [HS.out, if_pos h0]
    rw [h0]
    go_enter Tryd.func18, Tryd.ntmps18
    go_wp2
    go_ret
    exact ⟨⟨_, congrArg Ending.returned (str_get setsET d hd10), rfl⟩, below_alloc _ _⟩
  · have q48 : ((f.toNat : Int) == 48) = false := by rw [beq_eq_false_iff_ne]; omega
    obtain ⟨T, hT⟩ : ∃ T, setsET.getD d ⟨#[]⟩ = T := ⟨_, rfl⟩
    have hget := str_get setsET d hd10
    rw [hT] at hget hl6 hab
    simp only [setsET, List.map_cons, List.map_nil] at hget
    have hTs : T.size = 6 := by rw [← bl_length]; exact hl6
    have HAB : Hid (∀ k, k < 6 → nthU (bl T) k = 65 ∨ nthU (bl T) k = 66) := Lib.hid (fun k hk => by
      rw [nthU_eq (by omega)]; exact hab _ (List.getElem_mem (by omega)))
    have HS2 : Hid (setsE f c = (bl T).map turned) := Lib.hid (by rw [HS.out, if_neg h0, hT])
    have HTK : Hid (∀ k, k < 6 → ((bl T).take (k + 1)).map turned = ((bl T).take k).map turned ++ [turned (nthU (bl T) k)]) := Lib.hid (fun k hk => by
      rw [List.take_succ_eq_append_getElem (by omega), List.map_append, nthU_eq (by omega)]; rfl)
    have he65 : Utf8.encode 65 = ⟨#[65]⟩ := enc_low (c := 65) (by decide)
    have he66 : Utf8.encode 66 = ⟨#[66]⟩ := enc_low (c := 66) (by decide)
    clear hab hl6 HS hT hcell
    go_enter Tryd.func18, Tryd.ntmps18
    go_wp2
    go_loopw [6, 7, 18] (fun o _ i wr => ∃ (k : Nat) (r : ByteArray), k ≤ 6 ∧ i = .int .i64 k ∧ o = .string r ∧ r.size = k ∧ Hid (bl r = ((bl T).take k).map turned) ∧ Below w.heap.size w wr) (fun _ _ i _ => 6 - (intOf i).toNat)
    case atStart => exact ⟨0, ⟨#[]⟩, Nat.zero_le _, rfl, rfl, rfl, Lib.hid rfl, below_alloc _ _⟩
    case round =>
      obtain ⟨k, r, hk, rfl, rfl, hrs, hr, hb⟩ := hrel
      by_cases hlt : k < 6
      · have hbyte := bl_get T k (by omega)
        have hx := HAB.out k hlt
        have hnx := HTK.out k hlt
        rw [← hr.out] at hnx
        generalize nthU (bl T) k = x at *
        have HNX := Lib.hid hnx
        clear hnx hr
        rcases hx with rfl | rfl
        · go_wp2
          go_roundw
          case rel => exact ⟨k + 1, _, by omega, by go_num, rfl, by rw [ByteArray.size_append', hrs]; rfl, Lib.hid (by rw [HNX.out, bl_append]; rfl), hb⟩
          case measure => simp [intOf]; omega
        · go_wp2
          go_roundw
          case rel => exact ⟨k + 1, _, by omega, by go_num, rfl, by rw [ByteArray.size_append', hrs]; rfl, Lib.hid (by rw [HNX.out, bl_append]; rfl), hb⟩
          case measure => simp [intOf]; omega
      · have hr6 : Hid (bl r = setsE f c) := Lib.hid (by rw [hr.out, HS2.out, List.take_of_length_le (by rw [bl_length]; omega)])
        go_wp2
        go_ret
        exact ⟨⟨_, rfl, hr6.out⟩, hb⟩
end Go.Proofs.YtpgddedhhjbgoaaDoor
