/- Walks: spec.OD39. (Printed by gen39S.py.) -/
import Derived.Test.Ytpgddedhhjbgoaa39P
import Derived.Test.YtpgddedhhjbgoaaBarF
import Derived.Test.YtpgddedhhjbgoaaTab
import Derived.Test.YtpgddedhhjbgoaaBars
namespace Go.Proofs.Ytpgddedhhjbgoaa
open Go.RowKit

/-- What the reference has gathered behind so many rounds. -/
def u39 (ds : List UInt8) (k : Nat) : List Nat := if k = 0 then [] else if k ≤ ds.length + 1 then v39 ds (k - 1) else widths39 ds
theorem u39_length (ds : List UInt8) (k : Nat) (h : k ≤ ds.length + 2) : (u39 ds k).length ≤ 10 * k := by
  unfold u39
  split
  · simp
  · split
    · rw [v39_length]; omega
    · rw [widths39_length]; omega

set_option maxHeartbeats 4000000 in
set_option maxRecDepth 100000 in
theorem OD39_any (s : ByteArray) (w : World) (hl : s.size ≤ 10000) (hd : ∀ i, i < s.size → nthU (bl s) i ∈ signs39) :
    Calls Try.prog 10 #[.string s] w fun e w' =>
      ∃ v', e = .returned v' ∧ w'.ownsRow w.heap.size 4 1 v' (bars (widths39 (bl s))).length ((bars (widths39 (bl s))).map .bool) ∧ Below w.heap.size w w' := by
  obtain ⟨i0, hi, hz0, hz1, hz2⟩ := info_parts info_int
  have HBL := Lib.hid (bl_length s)
  have HD := Lib.hid hd
  clear hd
  go_enter Try.func10, Try.ntmps10
  go_wp2
  go_loopw [3, 4, 5] (fun o i _ wr => ∃ k : Nat, k ≤ s.size + 2 ∧ i = .int .i64 ((k : Int) - 1) ∧ wr.ownsRow w.heap.size 3 1 o (u39 (bl s) k).length ((u39 (bl s) k).map I64) ∧ Below w.heap.size w wr) (fun _ i _ _ => s.size + 2 - (intOf i + 1).toNat)
  case atStart => exact ⟨0, Nat.zero_le _, rfl, World.ownsRow_nil _ _ _ _, Below.refl _ _⟩
  case round =>
    obtain ⟨k, hk, rfl, hown, hb⟩ := hrel
    have hul := u39_length (bl s) k (by rw [HBL.out]; exact hk)
    have hsz := hb.size
    by_cases hlast : k < s.size + 2
    · by_cases h0 : k = 0
      · have hnext : Hid (u39 (bl s) k ++ end39 = u39 (bl s) (k + 1)) := Lib.hid (by
          rw [h0]; unfold u39; rw [if_pos rfl, if_neg (by omega), if_pos (by omega)]; simp [v39])
        have hel : Hid (elements ((nth bits39T 43 : Nat) : Int).toNat (9 : Int).toNat (2 : Int).toNat = end39) := Lib.hid rfl
        have hEl := end39_length
        have hown5 := hown
        have hb5 := hb
        have hl5 : (u39 (bl s) k).length ≤ 10 * k + 1 := by omega
        have hnext1 : Hid (u39 (bl s) k ++ end39 = u39 (bl s) (0 + 1)) := Lib.hid (by rw [hnext.out, h0])
        subst h0
        clear hown hb hnext1
        generalize u39 (bl s) 0 = L at *
        have hsz5 := hb5.size
        go_wp2_with fail
        refine (od39Bits_int _ (by omega) (by omega) _).mono ?_
        rintro e w6 ⟨rfl, hb6⟩
        have hb6' := Below.two hb5 hb6 hb5.size
        have hown6 := own_below hown5 hb6
        clear hb6 hown5 hb5
        have hq1 := nth_le bits39T_le 43
        go_wp2_with fail
        refine (odElements_int _ _ _ (by omega) (by omega) (by omega) (by omega) (by omega) (by omega) _).mono ?_
        rintro e w7 ⟨v7, rfl, hown7, hb7⟩
        have hb7' := Below.two hb6' hb7 hb6'.size
        have hown7' := own_below hown6 hb7
        rw [hel.out] at hown7
        obtain ⟨g7, c7, rfl, hg7a, hg7b⟩ := own_slice hown7 (by decide)
        have hc7 := hown7.cells (g := g7) rfl
        clear hb7 hown6 hb6'
        have hl7 : (L ++ end39).length = L.length + 9 := by rw [List.length_append, hEl]
        have hsz7 := hb7'.size
        go_wp2_with (at_builtin; refine wpList_append_lies _ rfl _ _ 31 rfl w.heap.size 3 i0 (.int .i64 0) 1 8 Try.underlying31 hi hz0 hz1 hz2 rfl (by decide) _ _ _ rfl hown7' ⟨g7, 0, none⟩ 9 c7 (end39.map I64) rfl (by rw [List.length_map, hEl]) hc7 (ints_one _) (by decide) (by unfold maxLen; omega) (by omega) hsz7 _ rfl ?_)
        intro g8 cap8 w8 hown8 hgrow8 hat8 hlt8
        have hb8 : Below w.heap.size w w8 := app_below0 hb7' hsz7 hown7' hgrow8
        generalize hv8 : Value.slice (some ⟨g8, 0, none⟩) (L.length + 9) cap8 = v8 at *
        rw [← List.map_append, ← hl7, hnext.out] at hown8
        clear hgrow8 hat8 hown7 hown7' hb7' hc7 hl7
        go_wp2
        go_roundw
        case rel => exact ⟨0 + 1, by omega, by go_num, hown8, hb8⟩
        case measure => first | (simp [intOf]; omega) | simp [intOf]

      · by_cases hend : k = s.size + 1
        · have hnext : Hid (u39 (bl s) k ++ [1] ++ end39 = u39 (bl s) (k + 1)) := Lib.hid (by
            unfold u39
            rw [if_neg h0, if_pos (by rw [HBL.out]; omega), if_neg (by omega), if_neg (by rw [HBL.out]; omega), ← v39_end, HBL.out, hend]; rfl)
          have hel : Hid (elements ((nth bits39T 43 : Nat) : Int).toNat (9 : Int).toNat (2 : Int).toNat = end39) := Lib.hid rfl
          have hEl := end39_length
          have hk1 : (1 : Int) ≤ k := by omega
          have hk2 : ¬ ((k : Int) - 1 < s.size) := by omega
          have hk3 : ((k : Int) - 1 ≤ s.size) := by omega
          have HEND := Lib.hid hend
          clear hend
          go_wp2_with (at_builtin; refine wpList_append_lies _ rfl _ _ 31 rfl w.heap.size 3 i0 (.int .i64 0) 1 8 Try.underlying31 hi hz0 hz1 hz2 rfl (by decide) _ _ _ rfl (hown.alloc _) ⟨wr.heap.size, 0, none⟩ 1 1 [I64 1] rfl rfl (one_new wr _ _) (ints_one [1]) (by decide) (by unfold maxLen; omega) (by omega) (by simp; omega) _ rfl ?_)
          intro g cap w5 hown5 hgrow hat hlt5
          have hb5 : Below w.heap.size w w5 := app_below hb hsz hown hgrow
          have e5 : ((u39 (bl s) k).map I64 ++ [I64 1]) = (u39 (bl s) k ++ [1]).map I64 := by simp
          have l5 : (u39 (bl s) k).length + 1 = (u39 (bl s) k ++ [1]).length := by simp
          have hl5 : (u39 (bl s) k ++ [1]).length ≤ 10 * k + 1 := by rw [← l5]; omega
          rw [e5] at hown5
          generalize hvv : Value.slice (some ⟨g, 0, none⟩) ((u39 (bl s) k).length + 1) cap = vv at *
          rw [l5] at hown5
          clear hgrow hat hown e5 hb l5
          generalize u39 (bl s) k ++ [1] = L at *
          have hsz5 := hb5.size
          go_wp2_with fail
          refine (od39Bits_int _ (by omega) (by omega) _).mono ?_
          rintro e w6 ⟨rfl, hb6⟩
          have hb6' := Below.two hb5 hb6 hb5.size
          have hown6 := own_below hown5 hb6
          clear hb6 hown5 hb5
          have hq1 := nth_le bits39T_le 43
          go_wp2_with fail
          refine (odElements_int _ _ _ (by omega) (by omega) (by omega) (by omega) (by omega) (by omega) _).mono ?_
          rintro e w7 ⟨v7, rfl, hown7, hb7⟩
          have hb7' := Below.two hb6' hb7 hb6'.size
          have hown7' := own_below hown6 hb7
          rw [hel.out] at hown7
          obtain ⟨g7, c7, rfl, hg7a, hg7b⟩ := own_slice hown7 (by decide)
          have hc7 := hown7.cells (g := g7) rfl
          clear hb7 hown6 hb6'
          have hl7 : (L ++ end39).length = L.length + 9 := by rw [List.length_append, hEl]
          have hsz7 := hb7'.size
          go_wp2_with (at_builtin; refine wpList_append_lies _ rfl _ _ 31 rfl w.heap.size 3 i0 (.int .i64 0) 1 8 Try.underlying31 hi hz0 hz1 hz2 rfl (by decide) _ _ _ rfl hown7' ⟨g7, 0, none⟩ 9 c7 (end39.map I64) rfl (by rw [List.length_map, hEl]) hc7 (ints_one _) (by decide) (by unfold maxLen; omega) (by omega) hsz7 _ rfl ?_)
          intro g8 cap8 w8 hown8 hgrow8 hat8 hlt8
          have hb8 : Below w.heap.size w w8 := app_below0 hb7' hsz7 hown7' hgrow8
          generalize hv8 : Value.slice (some ⟨g8, 0, none⟩) (L.length + 9) cap8 = v8 at *
          rw [← List.map_append, ← hl7, hnext.out] at hown8
          clear hgrow8 hat8 hown7 hown7' hb7' hc7 hl7
          go_wp2
          go_roundw
          case rel => exact ⟨k + 1, by omega, by go_num, hown8, hb8⟩
          case measure => first | (simp [intOf]; omega) | simp [intOf]
        · have hks : k - 1 < s.size := by omega
          have hbyte := bl_get s (k - 1) hks
          have hmem := HD.out (k - 1) hks
          have hidx := idxU_lt hmem
          have e43 : signs39.length = 43 := rfl
          rw [e43] at hidx
          have hnext : Hid (u39 (bl s) k ++ [1] ++ el39 (nthU (bl s) (k - 1)) = u39 (bl s) (k + 1)) := Lib.hid (by
            unfold u39
            rw [if_neg h0, if_pos (by rw [HBL.out]; omega), if_neg (by omega), if_pos (by rw [HBL.out]; omega)]
            rw [show k + 1 - 1 = (k - 1) + 1 by omega, v39_succ])
          have hk1 : (1 : Int) ≤ k := by omega
          have hk2 : ((k : Int) - 1 < s.size) := by omega
          have hk3 : ((k : Int) - 1 ≤ s.size) := by omega
          generalize nthU (bl s) (k - 1) = A at *
          have hel : Hid (elements ((nth bits39T (idxU (bl signs39B) A) : Nat) : Int).toNat (9 : Int).toNat (2 : Int).toNat = el39 A) := Lib.hid (by
            rw [Int.toNat_natCast]; rfl)
          have hEl := el39_length A
          have HMEM := Lib.hid hmem
          have hidx' : ((idxU (bl signs39B) A : Nat) : Int) < 43 := by show ((idxU signs39 A : Nat) : Int) < 43; omega
          clear hmem e43 hidx
          have htn : ((k : Int) - 1).toNat = k - 1 := by omega
          go_wp2_with fail
          refine (odAt_any signs39B A HMEM.out (by decide) _).mono ?_
          rintro e w4 ⟨rfl, rfl⟩
          go_wp2_with (at_builtin; refine wpList_append_lies _ rfl _ _ 31 rfl w.heap.size 3 i0 (.int .i64 0) 1 8 Try.underlying31 hi hz0 hz1 hz2 rfl (by decide) _ _ _ rfl (hown.alloc _) ⟨w4.heap.size, 0, none⟩ 1 1 [I64 1] rfl rfl (one_new w4 _ _) (ints_one [1]) (by decide) (by unfold maxLen; omega) (by omega) (by simp; omega) _ rfl ?_)
          intro g cap w5 hown5 hgrow hat hlt5
          have hb5 : Below w.heap.size w w5 := app_below hb hsz hown hgrow
          have e5 : ((u39 (bl s) k).map I64 ++ [I64 1]) = (u39 (bl s) k ++ [1]).map I64 := by simp
          have l5 : (u39 (bl s) k).length + 1 = (u39 (bl s) k ++ [1]).length := by simp
          have hl5 : (u39 (bl s) k ++ [1]).length ≤ 10 * k + 1 := by rw [← l5]; omega
          rw [e5] at hown5
          generalize hvv : Value.slice (some ⟨g, 0, none⟩) ((u39 (bl s) k).length + 1) cap = vv at *
          rw [l5] at hown5
          clear hgrow hat hown e5 hb l5
          generalize u39 (bl s) k ++ [1] = L at *
          have hsz5 := hb5.size
          go_wp2_with fail
          refine (od39Bits_int _ (by omega) (by omega) _).mono ?_
          rintro e w6 ⟨rfl, hb6⟩
          have hb6' := Below.two hb5 hb6 hb5.size
          have hown6 := own_below hown5 hb6
          clear hb6 hown5 hb5
          have hq1 := nth_le bits39T_le (idxU (bl signs39B) A)
          go_wp2_with fail
          refine (odElements_int _ _ _ (by omega) (by omega) (by omega) (by omega) (by omega) (by omega) _).mono ?_
          rintro e w7 ⟨v7, rfl, hown7, hb7⟩
          have hb7' := Below.two hb6' hb7 hb6'.size
          have hown7' := own_below hown6 hb7
          rw [hel.out] at hown7
          obtain ⟨g7, c7, rfl, hg7a, hg7b⟩ := own_slice hown7 (by decide)
          have hc7 := hown7.cells (g := g7) rfl
          clear hb7 hown6 hb6'
          have hl7 : (L ++ (el39 A)).length = L.length + 9 := by rw [List.length_append, hEl]
          have hsz7 := hb7'.size
          go_wp2_with (at_builtin; refine wpList_append_lies _ rfl _ _ 31 rfl w.heap.size 3 i0 (.int .i64 0) 1 8 Try.underlying31 hi hz0 hz1 hz2 rfl (by decide) _ _ _ rfl hown7' ⟨g7, 0, none⟩ 9 c7 ((el39 A).map I64) rfl (by rw [List.length_map, hEl]) hc7 (ints_one _) (by decide) (by unfold maxLen; omega) (by omega) hsz7 _ rfl ?_)
          intro g8 cap8 w8 hown8 hgrow8 hat8 hlt8
          have hb8 : Below w.heap.size w w8 := app_below0 hb7' hsz7 hown7' hgrow8
          generalize hv8 : Value.slice (some ⟨g8, 0, none⟩) (L.length + 9) cap8 = v8 at *
          rw [← List.map_append, ← hl7, hnext.out] at hown8
          clear hgrow8 hat8 hown7 hown7' hb7' hc7 hl7
          go_wp2
          go_roundw
          case rel => exact ⟨k + 1, by omega, by go_num, hown8, hb8⟩
          case measure => first | (simp [intOf]; omega) | simp [intOf]
    · have hks : k = s.size + 2 := by omega
      have hW : Hid (u39 (bl s) k = widths39 (bl s)) := Lib.hid (by unfold u39; rw [if_neg (by omega), if_neg (by rw [HBL.out]; omega)])
      rw [hW.out] at hown
      have hle := widths39_le (bl s)
      have hlen := widths39_length (bl s)
      rw [HBL.out] at hlen
      clear hks hul
      have hk3 : ¬ ((k : Int) - 1 ≤ s.size) := by omega
      go_wp2_with fail
      refine (ODBars_any (widths39 (bl s)) _ _ (SlAt.of_own hown) hle (by omega)).mono ?_
      rintro e w6 ⟨v6, rfl, hown6, hb6⟩
      go_wp2
      go_ret
      exact ⟨_, rfl, own_mono hown6 hb.size, Below.two hb hb6 hb.size⟩
end Go.Proofs.Ytpgddedhhjbgoaa
