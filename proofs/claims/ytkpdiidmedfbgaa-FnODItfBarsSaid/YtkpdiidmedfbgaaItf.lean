/- Walks: spec.ODItf. -/
import Derived.Test.YtkpdiidmedfbgaaTab
import Derived.Test.YtkpdiidmedfbgaaBars


namespace Go.Proofs.Ytkpdiidmedfbgaa
open Go.RowKit

set_option maxHeartbeats 2000000 in
set_option maxRecDepth 100000 in
theorem ODItf_any (s : ByteArray) (w : World) (hd : allDig s) (hev : s.size % 2 = 0) (hl : s.size ≤ 10000) :
    Calls Try.prog 13 #[.string s] w fun e w' =>
      ∃ v', e = .returned v' ∧ w'.ownsRow w.heap.size 4 1 v' (bars (itfWidths (bl s))).length ((bars (itfWidths (bl s))).map .bool) ∧ Below w.heap.size w w' := by
  obtain ⟨i0, hi, hz0, hz1, hz2⟩ := info_parts info_int
  have hbl := bl_length s
  have HBL := Lib.hid hbl
  clear hbl
  go_enter Try.func13, Try.ntmps13
  go_wp2
  go_loopw [3, 4, 5, 6, 7] (fun o i a b k wr => ∃ n : Nat, 2 * n ≤ s.size ∧ i = .int .i64 ((2 * n : Nat) : Int) ∧ wr.ownsRow w.heap.size 3 1 o ([1, 1, 1, 1] ++ itfPairs (bl s) n).length (([1, 1, 1, 1] ++ itfPairs (bl s) n).map I64) ∧ Below w.heap.size w wr) (fun _ i _ _ _ _ => s.size - (intOf i).toNat)
  case atStart => exact ⟨0, by omega, rfl, own_lit w 3 [I64 1, I64 1, I64 1, I64 1] (by decide), below_alloc _ _⟩
  case round =>
    obtain ⟨n, hn, rfl, hown, hb⟩ := hrel
    by_cases hlt : 2 * n < s.size
    · have d1 := hd (2 * n) hlt
      have d2 := hd (2 * n + 1) (by omega)
      have hlt2 : 2 * n + 1 < s.size := by omega
      have g1 := bl_get s (2 * n) hlt
      have g2 := bl_get s (2 * n + 1) hlt2
      have hs := Lib.hid (itfPairs_succ (bl s) n)
      generalize nthU (bl s) (2 * n) = A at *
      generalize nthU (bl s) (2 * n + 1) = B at *
      obtain ⟨d1, d1'⟩ := d1
      obtain ⟨d2, d2'⟩ := d2
      go_wp2_with fail
      refine (odItfWide_int _ (by omega) (by omega) _).mono ?_
      rintro e w1 ⟨rfl, hb1⟩
      have hb1' := hb.trans (hb1.mono hb.size)
      have hown1 := own_below hown hb1
      have e1 : ((A.toNat : Int) - 48).toNat = A.toNat - 48 := by omega
      rw [e1]
      have l1 := nth_le itfWideT_le (A.toNat - 48)
      clear hb1 hown hb e1
      go_wp2_with fail
      refine (odElements_int _ _ _ (by omega) (by omega) (by omega) (by omega) (by omega) (by omega) _).mono ?_
      rintro e w2 ⟨va, rfl, hva, hb2⟩
      have hb2' := hb1'.trans (hb2.mono hb1'.size)
      have hown2 := own_below hown1 hb2
      obtain ⟨ga, ca, rfl, hga1, hga2⟩ := own_slice hva (by decide)
      have hsa := SlAt.of_own hva
      have hownA := hown1
      clear hb2 hown1 hva l1
      go_wp2_with fail
      refine (odItfWide_int _ (by omega) (by omega) _).mono ?_
      rintro e w3 ⟨rfl, hb3⟩
      have sz3 := hb3.size
      have hb3' := hb2'.trans (hb3.mono hb2'.size)
      have hown3 := own_below hown2 hb3
      have hsa3 := hsa.below' hb3
      have e1 : ((B.toNat : Int) - 48).toNat = B.toNat - 48 := by omega
      rw [e1]
      have l1 := nth_le itfWideT_le (B.toNat - 48)
      clear hb3 hown2 hsa e1
      go_wp2_with fail
      refine (odElements_int _ _ _ (by omega) (by omega) (by omega) (by omega) (by omega) (by omega) _).mono ?_
      rintro e w4 ⟨vb, rfl, hvb, hb4⟩
      have sz4 := hb4.size
      have hb4' := hb3'.trans (hb4.mono hb3'.size)
      have hown4 := own_below hown3 hb4
      have hsa4 := hsa3.below' hb4
      obtain ⟨gb, cb, rfl, hgb1, hgb2⟩ := own_slice hvb (by decide)
      have hsb4 := SlAt.of_own hvb
      have hga4 : ga < w4.heap.size := by omega
      clear hb4 hown3 hvb l1 hsa3
      go_wp2
      have hne1 : u3.ownBlock ≠ some ga := fun e => by have := (hownA.lt ga e).2; omega
      have hne2 : u3.ownBlock ≠ some gb := fun e => by have := (hownA.lt gb e).2; omega
      clear hownA
      go_loopw [3, 7] (fun o k wr => ∃ j : Nat, j ≤ 5 ∧ k = .int .i64 j ∧ wr.ownsRow w.heap.size 3 1 o (([1, 1, 1, 1] ++ itfPairs (bl s) n) ++ (List.range j).flatMap fun k => [nth (itfEl A) k, nth (itfEl B) k]).length ((([1, 1, 1, 1] ++ itfPairs (bl s) n) ++ (List.range j).flatMap fun k => [nth (itfEl A) k, nth (itfEl B) k]).map I64) ∧ Below w.heap.size w wr ∧ SlAt wr (.slice (some ⟨ga, 0, none⟩) 5 ca) ((itfEl A).map I64) ∧ SlAt wr (.slice (some ⟨gb, 0, none⟩) 5 cb) ((itfEl B).map I64) ∧ o.ownBlock ≠ some ga ∧ o.ownBlock ≠ some gb ∧ ga < wr.heap.size ∧ gb < wr.heap.size) (fun _ k _ => 5 - (intOf k).toNat)
      case atStart => exact ⟨0, Nat.zero_le _, rfl, by simpa using hown4, hb4', hsa4, hsb4, hne1, hne2, hga4, hgb2⟩
      case round =>
        clear hown4 hb4' hsa4 hsb4 hne1 hne2 hga4 hgb2
        obtain ⟨j, hj, rfl, hown, hb, hsa, hsb, hne1, hne2, hga, hgb⟩ := hrel
        have hlen := itfPairs_length (bl s) n
        by_cases hj5 : j < 5
        · obtain ⟨b1, o1, e1, hc1⟩ := hsa.getI j (by rw [itfEl, elements_length]; exact hj5)
          obtain ⟨b2, o2, e2, hc2⟩ := hsb.getI j (by rw [itfEl, elements_length]; exact hj5)
          injection e1 with e1; injection e1 with e1 e1'; subst e1; subst e1'
          injection e2 with e2; injection e2 with e2 e2'; subst e2; subst e2'
          simp only [Nat.zero_add] at hc1 hc2
          generalize hXS : (([1, 1, 1, 1] ++ itfPairs (bl s) n) ++ (List.range j).flatMap fun k => [nth (itfEl A) k, nth (itfEl B) k]) = XS at *
          have hXl : XS.length ≤ 100000 := by rw [← hXS, List.length_append, List.length_append, hlen, flat2_length, List.length_range]; simp only [List.length_cons, List.length_nil]; omega
          have hXS' : Hid (XS ++ [nth (itfEl A) j, nth (itfEl B) j] = ([1, 1, 1, 1] ++ itfPairs (bl s) n) ++ (List.range (j + 1)).flatMap fun k => [nth (itfEl A) k, nth (itfEl B) k]) := Lib.hid (by rw [← hXS]; simp [List.range_succ])
          clear hlen
          have HXS := Lib.hid hXS
          clear hXS
          have hj0 : (j : Int) < 5 := by omega
          go_wp2
          have hsz := hb.size
          go_region_held3 (fun w' => w'.cell? ⟨ga, j, none⟩ = some (.int .i64 (nth (itfEl A) j : Int)) ∧ w'.cell? ⟨gb, j, none⟩ = some (.int .i64 (nth (itfEl B) j : Int)))
            (first | go_keep | (go_split_ands; refine ⟨?_, ?_⟩ <;> (rw [hgrow.cell_far _ (by simp; omega) (Ne.symm (by assumption))]; assumption)))
            ((refine step_append_lies _ (by rfl) _ _ _ (by rfl) w.heap.size 3 i0 _ 1 8 Try.underlying35 hi hz0 hz1 hz2 rfl (by omega) u3 XS.length (XS.map I64) (by rfl) ((hown.alloc _).drew) ⟨wr.heap.size, 0, none⟩ 2 2 [I64 (nth (itfEl A) j), I64 (nth (itfEl B) j)] (by rfl) (by rfl) (two_new wr _ _ _) (by intro u hu; simp at hu; rcases hu with rfl | rfl <;> rfl) (by omega) (by unfold maxLen; omega) (by omega) (by simp; omega) (wr.heap.size + 1) (by simp) ?_; intro gg cap w5 hown' hgrow hat hlt5))
          have hb5 : Below w.heap.size w w5 := (((hb.alloc hsz _).drew).grown hgrow (by simp; omega) (fun k hk => (hown.lt k hk).1))
          have hsa5 := ((hsa.below' (below_alloc wr _)).drewN 1).grown hgrow (fun k hk e => hne1 (by rw [← e]; exact hk.symm ▸ rfl))
          have hsb5 := ((hsb.below' (below_alloc wr _)).drewN 1).grown hgrow (fun k hk e => hne2 (by rw [← e]; exact hk.symm ▸ rfl))
          have hz5 := hgrow.size
          simp only [World.size_drew, World.size_alloc] at hz5
          have e5 : (XS.map I64 ++ [I64 (nth (itfEl A) j), I64 (nth (itfEl B) j)]) = (XS ++ [nth (itfEl A) j, nth (itfEl B) j]).map I64 := by simp
          have l5 : XS.length + 2 = (XS ++ [nth (itfEl A) j, nth (itfEl B) j]).length := by simp
          have hown5 : w5.ownsRow w.heap.size 3 1 (.slice (some ⟨gg, 0, none⟩) (XS.length + 2) cap) (XS.length + 2) (XS.map I64 ++ [I64 (nth (itfEl A) j), I64 (nth (itfEl B) j)]) := hown'
          have hv5 : ∀ c, c < wr.heap.size → u3.ownBlock ≠ some c → (Value.slice (some ⟨gg, 0, none⟩) (XS.length + 2) cap).ownBlock ≠ some c := by
            intro c hc hne e
            have e : gg = c := by injection e
            subst e
            rcases hat with h | h
            · exact hne h
            · omega
          have hne1' := hv5 ga hga hne1
          have hne2' := hv5 gb hgb hne2
          have l5' : XS.length + 2 = (([1, 1, 1, 1] ++ itfPairs (bl s) n) ++ (List.range (j + 1)).flatMap fun k => [nth (itfEl A) k, nth (itfEl B) k]).length := by rw [l5, hXS'.out]
          generalize Value.slice (some ⟨gg, 0, none⟩) (XS.length + 2) cap = vv at *
          rw [e5, hXS'.out, l5'] at hown5
          clear hown' hgrow hat hv5 hown l5 l5' e5 hsa hsb hc1 hc2
          go_wp2
          go_roundw
          case rel => exact ⟨j + 1, by omega, by go_num, hown5, hb5, hsa5, hsb5, hne1', hne2', by omega, by omega⟩
          case measure => simp [intOf]; omega
        · have hj5' : j = 5 := by omega
          have hp : Hid (([1, 1, 1, 1] ++ itfPairs (bl s) n) ++ (List.range j).flatMap (fun k => [nth (itfEl A) k, nth (itfEl B) k]) = [1, 1, 1, 1] ++ itfPairs (bl s) (n + 1)) := Lib.hid (by rw [hs.out, hj5', List.append_assoc]; rfl)
          rw [hp.out] at hown
          clear hj5'
          go_wp2
          go_roundw
          case rel => exact ⟨n + 1, by omega, by go_num, hown, hb⟩
          case measure => simp [intOf]; omega
    · have hn2 : n = s.size / 2 := by omega
      have hle := itfPairs_length (bl s) n
      have hXl : ([1, 1, 1, 1] ++ itfPairs (bl s) n).length ≤ 100000 := by rw [List.length_append, hle]; simp only [List.length_cons, List.length_nil]; omega
      have hW : Hid (([1, 1, 1, 1] ++ itfPairs (bl s) n) ++ [3, 1, 1] = itfWidths (bl s)) := Lib.hid (by rw [itfWidths, HBL.out, hn2])
      have hWl := itfWidths_length (bl s)
      rw [HBL.out] at hWl
      generalize ([1, 1, 1, 1] ++ itfPairs (bl s) n) = XS at *
      clear hle hn2
      have hsz := hb.size
      go_wp2_with (at_builtin; refine wpList_append_lies _ rfl _ _ 35 rfl w.heap.size 3 i0 (.int .i64 0) 1 8 Try.underlying35 hi hz0 hz1 hz2 rfl (by decide) _ _ _ rfl (hown.alloc _) ⟨wr.heap.size, 0, none⟩ 3 3 [I64 3, I64 1, I64 1] rfl rfl ?c1 ?c2 ?c0 ?c3 ?c4 ?c5 _ rfl ?_)
      case c1 => exact lit_new wr [I64 3, I64 1, I64 1] _
      case c2 => exact ints_one [3, 1, 1]
      case c0 => decide
      case c3 => unfold maxLen; omega
      case c4 => omega
      case c5 => simp; omega
      intro g cap w5 hown' hgrow hat hlt5
      have hb5 : Below w.heap.size w w5 := app_below hb hsz hown hgrow
      have e5 : (XS.map I64 ++ [I64 3, I64 1, I64 1]) = (XS ++ [3, 1, 1]).map I64 := by simp
      have hs5 := SlAt.of_own hown'
      rw [e5, hW.out] at hs5
      clear hown' hgrow hat hown e5
      go_wp2_with fail
      refine (ODBars_any (itfWidths (bl s)) _ _ hs5 (itfWidths_le _) (by omega)).mono ?_
      rintro e w6 ⟨v6, rfl, hown6, hb6⟩
      go_wp2
      go_ret
      exact ⟨_, rfl, own_mono hown6 hb5.size, hb5.trans (hb6.mono hb5.size)⟩
end Go.Proofs.Ytkpdiidmedfbgaa
