/- Walks: the encoder of Code 39, all bytes below 128. (Printed by gen39G.py.) -/
import Derived.Test.Ytpgddedhhjbgoaa39E
import Derived.Test.Ytpgddedhhjbgoaa39X
namespace Go.Proofs.Ytpgddedhhjbgoaa
open Go.RowKit

theorem all_of_mem' {s : ByteArray} {P : UInt8 → Prop} (h : ∀ c ∈ bl s, P c) : ∀ i, i < s.size → P (nthU (bl s) i) := fun i hi => by
  have hi' : i < (bl s).length := by rw [bl_length]; exact hi
  rw [nthU_eq hi']; exact h _ (List.getElem_mem hi')

set_option maxHeartbeats 8000000 in
set_option maxRecDepth 100000 in
theorem enc39_full (s : ByteArray) (w : World) (h0 : 0 < s.size) (hs : s.size ≤ 31) (ha : ∀ i, i < s.size → (nthU (bl s) i).toNat < 128) (hlast : nthU (bl s) (s.size - 1) ∉ signs39) (x : Value) :
    Calls Try.prog 37 #[.agg #[], .string s, x] w fun e w' =>
      (∃ v, e = .returned (.tuple #[v, .nilIface]) ∧ w'.ownsRow w.heap.size 4 1 v (bars (widths39 (pairs39 (bl s) s.size))).length ((bars (widths39 (pairs39 (bl s) s.size))).map .bool)) ∧ Below w.heap.size w w' := by
  obtain ⟨i0, hi, hz0, hz1, hz2⟩ := info_parts info_int
  obtain ⟨j0, hj, hy0, hy1, hy2⟩ := info_parts info_bool
  have HA := Lib.hid ha
  have HL := Lib.hid hlast
  clear ha hlast
  go_enter Try.func37, Try.ntmps37
  go_wp2
  have hb0 : Below w.heap.size w (w.alloc (.cells #[] 52)) := below_alloc _ _
  generalize w.alloc (.cells #[] 52) = W0 at *
  go_loop [1, 8, 9, 10, 11] (fun c l i _ _ => ∃ k : Nat, k ≤ s.size - 1 ∧ i = .int .i64 k ∧ c = .string s ∧ l = .int .i64 s.size) (fun _ _ i _ _ => s.size - (intOf i).toNat)
  case atStart => exact ⟨0, Nat.zero_le _, rfl, rfl, rfl⟩
  case round =>
   obtain ⟨k, hk, rfl, rfl, rfl⟩ := hrel
   have hlt : k < s.size := by omega
   have hbyte := bl_get s k hlt
   have henc := enc_byte (HA.out k hlt)
   by_cases hmem : nthU (bl s) k ∈ signs39
   · have hk1 : k + 1 ≤ s.size - 1 := by
       rcases Nat.lt_or_ge k (s.size - 1) with h | h
       · omega
       · exact absurd (show nthU (bl s) (s.size - 1) ∈ signs39 by rw [show s.size - 1 = k by omega]; exact hmem) HL.out
     have hzz : Hid (zzIdx (bl signs39B) (nthU (bl s) k) = (idxU signs39 (nthU (bl s) k) : Int)) := Lib.hid (by
       rw [zzIdx, if_pos (show nthU (bl s) k ∈ bl signs39B from hmem)]; rfl)
     generalize nthU (bl s) k = A at *
     clear hmem
     go_wp2_with fail
     refine (zzIndex_any signs39B A (by decide) _).mono ?_
     rintro e wa ⟨rfl, rfl⟩
     rw [hzz.out]
     generalize idxU signs39 A = ix at *
     clear hzz henc hbyte
     dsimp only
     go_wp2_with fail
     go_round
     case rel => exact ⟨k + 1, hk1, by go_num, rfl, rfl⟩
     case measure => simp [intOf]; omega
   · have hzz : Hid (zzIdx (bl signs39B) (nthU (bl s) k) = -1) := Lib.hid (by
       rw [zzIdx, if_neg (show ¬ nthU (bl s) k ∈ bl signs39B from hmem)])
     generalize nthU (bl s) k = A at *
     clear hmem
     go_wp2_with fail
     refine (zzIndex_any signs39B A (by decide) _).mono ?_
     rintro e wa ⟨rfl, rfl⟩
     rw [hzz.out]
     clear hzz henc hbyte
     dsimp only
     go_wp2_with fail
     refine (ext39_any s _ (by omega) HA.out).mono ?_
     rintro e wb ⟨⟨r, rfl, hr⟩, hb1⟩
     have hb2 := Below.two hb0 hb1 hb0.size
     have hrl : r.size ≤ 62 := by rw [← bl_length, hr]; have := pairs39_length (bl s) s.size; omega
     have hd : ∀ c ∈ bl r, c ∈ signs39 := by
       rw [hr]; intro c hc
       obtain ⟨j, hj, hc⟩ := List.mem_flatMap.1 hc
       exact pair39_signs _ (HA.out j (List.mem_range.1 hj)) c hc
     have HDR := Lib.hid (all_of_mem' hd)
     have HBLR := Lib.hid (bl_length r)
     have HR := Lib.hid hr
     clear hd hr hb1 hb0 HA HL hlt hk hs h0
     have hb0 := hb2
     clear hb2
     generalize hw0 : wb = W0 at *
     clear hw0
     have hRl := HBLR.out
     have hE12 : end39.sum = 12 := rfl
     have hsz0 := hb0.size
     go_wp2_with (at_make; refine wpList_make_full _ rfl _ _ 31 rfl w.heap.size 3 i0 (.int .i64 0) 1 Try.underlying31 hi hz0 hz1 _ _ _ _ 9 rfl rfl rfl rfl (by rw [hz2]; omega) (by unfold maxLen; omega) hsz0 ?_)
     intro w1 hen hgrow
     have hb1 : Below w.heap.size w w1 := hb0.grown hgrow hsz0 (fun k hk => by cases hk)
     obtain ⟨hh1, hh2⟩ := hen.lt _ rfl
     have hsz1 := hb1.size
     clear hgrow hb0
     generalize W0.heap.size = h at *
     generalize (madeCells #[Value.int .i64 0] 9).toList = xs0 at *
     generalize hN : 25 + 13 * r.size = N at *
     have HN := Lib.hid hN
     have hN1 : N ≤ 2000 := by omega
     clear hN
     go_wp2_with (at_make; refine wpList_make_full _ rfl _ _ 24 rfl w.heap.size 4 j0 (.bool false) 1 Try.underlying24 hj hy0 hy1 _ _ _ _ N rfl rfl ?a1 ?a2 ?b1 ?b2 hsz1 ?_)
     case a1 => have := HN.out; omega
     case a2 => have := HN.out; omega
     case b1 => first | (rw [hy2]; omega) | omega
     case b2 => unfold maxLen; omega
     intro w2 hown hgrow
     have hb2 : Below w.heap.size w w2 := hb1.grown hgrow hsz1 (fun k hk => by cases hk)
     have hen2 := hen.kept hgrow (.inr (fun e => by cases e))
     obtain ⟨hg1, hg2⟩ := hown.lt _ rfl
     have hgh : h ≠ w1.heap.size := by omega
     have hh2' : h < w2.heap.size := by have := hgrow.size; omega
     rw [made_bools] at hown
     clear hgrow hb1 hen
     generalize w1.heap.size = g at *
     go_wp2_with fail
     refine (toIntArray_any 148 h 9 w.heap.size (by omega) xs0 _ hen2).mono ?_
     rintro e w3 ⟨rfl, hen3, hg3⟩
     have hb3 : Below w.heap.size w w3 := hb2.grown hg3 hb2.size (fun k hk => by injection hk; omega)
     have hown3 := hown.kept hg3 (.inr (by simp [Value.ownBlock]; omega))
     have hz3 := hg3.size
     have hs3 := SlAt.of_own hen3
     clear hg3 hb2 hen2 hown
     go_wp2_with fail
     refine (appendPattern_any g N N w.heap.size [] end39 _ _ true _ hown3 rfl hs3 (fun e => hgh (by injection e)) (by have e : end39.sum = 12 := rfl; rw [e, List.length_nil]; have := HN.out; omega) (by omega)).mono ?_
     rintro e w4 ⟨rfl, hown4, hg4⟩
     have hb4 : Below w.heap.size w w4 := hb3.grown hg4 hb3.size (fun k hk => by injection hk; omega)
     have hen4 := hen3.kept hg4 (.inr (by simp [Value.ownBlock]; omega))
     have hz4 := hg4.size
     clear hg4 hb3 hen3 hown3 hs3
     have hlit := own_lit w4 3 [I64 1] (by decide)
     have hsl5 := SlAt.of_own hlit
     have hb5 : Below w.heap.size w (w4.alloc (.cells #[I64 1] 3)) := hb4.alloc hb4.size _
     have hen5 := hen4.alloc (.cells #[I64 1] 3)
     have hown5 := hown4.alloc (.cells #[I64 1] 3)
     have hz5 : (w4.alloc (.cells #[I64 1] 3)).heap.size = w4.heap.size + 1 := by simp
     have hwsz : w.heap.size ≤ w4.heap.size := hb4.size
     have hqg : w4.heap.size ≠ g := by omega
     have hqh : w4.heap.size ≠ h := by omega
     clear hlit hb4 hen4 hown4
     go_wp2_with fail
     refine (appendPattern_any g N N w.heap.size (barsFrom true end39) [1] _ _ false _ hown5 rfl hsl5 (blk_ne hqg) (by show 12 + 1 ≤ N; have := HN.out; omega) (by omega)).mono ?_
     rintro e w6 ⟨rfl, hown6, hg6⟩
     have hb6 : Below w.heap.size w w6 := hb5.grown hg6 hb5.size (fun k hk => by injection hk; omega)
     have hen6 := hen5.kept hg6 (.inr (by simp [Value.ownBlock]; omega))
     have hz6 := hg6.size
     have hsl6 := SlAt.grown' hsl5 hg6 hqg
     rw [← m39_zero (bl r)] at hown6
     have hq : w4.heap.size < w6.heap.size := by omega
     have hhs : h < w6.heap.size := by omega
     have hgs : g < w6.heap.size := by omega
     clear hg6 hb5 hen5 hown5 hsl5 hz6 hz5 hz4 hz3 hwsz hh2' hg2 hg1
     generalize w4.heap.size = q at *
     go_wp2
     go_loopw [15, 17, 18] (fun p i _ wr => ∃ k : Nat, k ≤ r.size ∧ i = .int .i64 k ∧ p = .int .i64 ((m39 (bl r) k).length : Int) ∧ wr.ownsRow w.heap.size 4 1 (.slice (some ⟨g, 0, none⟩) N N) N (fillB N (m39 (bl r) k)) ∧ (∃ xs, wr.ownsRow w.heap.size 3 1 (.slice (some ⟨h, 0, none⟩) 9 9) 9 xs) ∧ SlAt wr (.slice (some ⟨q, 0, none⟩) 1 1) ([I64 1]) ∧ Below w.heap.size w wr ∧ g < wr.heap.size ∧ h < wr.heap.size ∧ q < wr.heap.size) (fun _ i _ _ => r.size - (intOf i).toNat)
     case atStart => exact ⟨0, Nat.zero_le _, rfl, rfl, hown6, ⟨_, hen6⟩, hsl6, hb6, hgs, hhs, hq⟩
     case round =>
       clear hown6 hen6 hsl6 hb6 hgs hhs hq
       obtain ⟨k, hk, rfl, rfl, hown, ⟨xs, hen⟩, hsl, hb, hgs, hhs, hq⟩ := hrel
       have hml := m39_length (bl r) k (fun i hi => HDR.out i (by omega))
       by_cases hlt : k < r.size
       · have hbyte := bl_get r k hlt
         have hmem := HDR.out k hlt
         have hms := Lib.hid (m39_succ (bl r) k)
         have henc := signs39_enc hmem
         have hidx := idxU_lt hmem
         have e43 : signs39.length = 43 := rfl
         rw [e43] at hidx
         have hzz : Hid (zzIdx (bl signs39B) (nthU (bl r) k) = (idxU signs39 (nthU (bl r) k) : Int)) := Lib.hid (by
           rw [zzIdx, if_pos (show nthU (bl r) k ∈ bl signs39B from hmem)]; rfl)
         have hsum := el39_sum hmem
         generalize nthU (bl r) k = A at *
         have hel : Hid (elements (nth (bits39T.take 43) (idxU signs39 A)) 9 2 = el39 A) := Lib.hid (by
           unfold el39
           rw [nth, nth, List.getD, List.getD, List.getElem?_take, if_pos hidx])
         clear hmem e43
         generalize idxU signs39 A = ix at *
         have hroom : (m39 (bl r) k).length + 26 ≤ N + 1 := by rw [← HN.out, hml]; omega
         have HML := Lib.hid hml
         clear hml
         generalize m39 (bl r) k = M at *
         go_wp2_with fail
         refine (zzIndex_any signs39B A (by decide) _).mono ?_
         rintro e wa ⟨rfl, rfl⟩
         rw [hzz.out]
         go_wp2_with fail
         refine (enc39_any _).mono ?_
         rintro e w7 ⟨⟨ea, ec, rfl, hse⟩, hb7⟩
         have hb7' := Below.two hb hb7 hb.size
         have hown7 := own_below hown hb7
         have hen7 := own_below hen hb7
         have hsl7 := hsl.below' hb7
         have hz7 := hb7.size
         obtain ⟨eb, eo, rfl, hce⟩ := hse.getI ix (by show _ < 43; omega)
         have hcode := nth_le (show ∀ x ∈ bits39T.take 43, x ≤ 1000 by decide) ix
         clear hb hb7 hown hen hsl hse
         generalize nth (bits39T.take 43) ix = code at *
         go_wp2_with fail
         refine (toIntArray_any code h 9 w.heap.size hcode xs _ hen7).mono ?_
         rintro e w8 ⟨rfl, hen8, hg8⟩
         rw [hel.out] at hen8
         have hb8 : Below w.heap.size w w8 := hb7'.grown hg8 hb7'.size (fun k hk => by injection hk; omega)
         have hown8 := hown7.kept hg8 (.inr (by simp [Value.ownBlock]; omega))
         have hsl8 := SlAt.grown' hsl7 hg8 hqh
         have hz8 := hg8.size
         have hs8 := SlAt.of_own hen8
         clear hg8 hb7' hen7 hown7 hsl7 hce
         go_wp2_with fail
         refine (appendPattern_any g N N w.heap.size M (el39 A) _ _ true _ hown8 rfl hs8 (fun e => hgh (by injection e)) (by rw [hsum]; omega) (by omega)).mono ?_
         rintro e w9 ⟨rfl, hown9, hg9⟩
         have hb9 : Below w.heap.size w w9 := hb8.grown hg9 hb8.size (fun k hk => by injection hk; omega)
         have hen9 := hen8.kept hg9 (.inr (by simp [Value.ownBlock]; omega))
         have hsl9 := SlAt.grown' hsl8 hg9 hqg
         have hz9 := hg9.size
         have hl9 : ((M.length : Int) + ((el39 A).sum : Int)) = ((M ++ barsFrom true (el39 A)).length : Int) := by rw [List.length_append, barsFrom_length]; omega
         have hl9b : (M ++ barsFrom true (el39 A)).length = M.length + 12 := by rw [List.length_append, barsFrom_length, hsum]
         have hs12 : (el39 A).sum ≤ 12 := by omega
         have HL9 := Lib.hid hl9
         have HL9b := Lib.hid hl9b
         clear hl9 hl9b
         clear hg9 hb8 hen8 hown8 hsl8 hs8 hsum
         go_wp2_with fail
         refine (appendPattern_any g N N w.heap.size (M ++ barsFrom true (el39 A)) [1] _ _ false _ hown9 HL9.out hsl9 (blk_ne hqg) (by have := HL9b.out; show _ + 1 ≤ N; omega) (by omega)).mono ?_
         rintro e w10 ⟨rfl, hown10, hg10⟩
         have hb10 : Below w.heap.size w w10 := hb9.grown hg10 hb9.size (fun k hk => by injection hk; omega)
         have hen10 := hen9.kept hg10 (.inr (by simp [Value.ownBlock]; omega))
         have hsl10 := SlAt.grown' hsl9 hg10 hqg
         have hz10 := hg10.size
         rw [← hms.out] at hown10
         have hl10 : Hid ((M.length : Int) + ((el39 A).sum : Int) + (([1] : List Nat).sum : Int) = ((m39 (bl r) (k + 1)).length : Int)) := Lib.hid (by
           rw [hms.out, HL9.out, @List.length_append _ (M ++ barsFrom true (el39 A)) (barsFrom false [1])]; rfl)
         clear hg10 hb9 hen9 hown9 hsl9
         go_wp2
         go_roundw
         case rel => exact ⟨k + 1, by omega, by go_num, by rw [← hl10.out]; go_num, hown10, ⟨_, hen10⟩, hsl10, hb10, by omega, by omega, by omega⟩
         case measure => simp [intOf]; omega
       · have hkr : k = r.size := by omega
         have hend : Hid (m39 (bl r) k ++ barsFrom true end39 = bars (widths39 (bl r))) := Lib.hid (by rw [m39_end, HBLR.out, hkr])
         have hlen : Hid ((bars (widths39 (bl r))).length = N) := Lib.hid (by rw [← hend.out, ← HN.out, List.length_append, hml, hkr]; show 13 + 13 * r.size + 12 = _; omega)
         have hroom : (m39 (bl r) k).length + 12 ≤ N := by rw [← HN.out, hml]; omega
         clear hml hkr
         generalize m39 (bl r) k = M at *
         go_wp2_with fail
         refine (toIntArray_any 148 h 9 w.heap.size (by omega) xs _ hen).mono ?_
         rintro e w3 ⟨rfl, hen3, hg3⟩
         have hb3 : Below w.heap.size w w3 := hb.grown hg3 hb.size (fun k hk => by injection hk; omega)
         have hown3 := hown.kept hg3 (.inr (by simp [Value.ownBlock]; omega))
         have hs3 := SlAt.of_own hen3
         clear hg3 hb hown hen
         go_wp2_with fail
         refine (appendPattern_any g N N w.heap.size M end39 _ _ true _ hown3 rfl hs3 (fun e => hgh (by injection e)) (by have e : end39.sum = 12 := rfl; rw [e]; omega) (by omega)).mono ?_
         rintro e w4 ⟨rfl, hown4, hg4⟩
         have hb4 : Below w.heap.size w w4 := hb3.grown hg4 hb3.size (fun k hk => by injection hk; omega)
         rw [hend.out, fillB_full _ _ hlen.out] at hown4
         clear hg4 hb3 hown3 hs3
         go_wp2
         go_ret2
         rw [← HR.out]
         exact ⟨⟨_, rfl, by rw [hlen.out]; exact hown4⟩, hb4⟩
end Go.Proofs.Ytpgddedhhjbgoaa
