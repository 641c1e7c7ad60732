/- Walks: the encoder of Interleaved 2 of 5. -/
import Derived.Test.YtkpdiidmedfbgaaItfT
import Derived.Test.YtkpdiidmedfbgaaApp
import Derived.Test.YtkpdiidmedfbgaaNum
namespace Go.Proofs.Ytkpdiidmedfbgaa
open Go.RowKit

set_option maxHeartbeats 2000000 in
set_option maxRecDepth 100000 in
theorem itfEnc_bad (s : ByteArray) (w : World) (hs : s.size ≤ 1000000) (h : s.size % 2 = 1 ∨ 80 < s.size ∨ ((∀ i, i < s.size → (nthU (bl s) i).toNat < 128) ∧ ¬ allDig s)) (x : Value) :
    Calls Try.prog 51 #[.agg #[], .string s, x] w fun e w' => (∃ u y, e = .returned (.tuple #[.slice none 0 0, .iface u y])) ∧ Below w.heap.size w w' := by
  by_cases h1 : s.size % 2 = 1
  · have h1' : ((s.size : Int) % 2 != 0) = true := by simp; omega
    clear h
    go_enter Try.func51, Try.ntmps51
    go_wp2_with (go_at_call 56; refine (NewWriterException_any _ _).mono ?_; rintro e w1 ⟨⟨u, x, rfl⟩, hb1⟩)
    go_ret2
    exact ⟨⟨_, _, rfl⟩, Below.two (by go_grown) hb1 (by simp <;> omega)⟩
  · have h1' : ((s.size : Int) % 2 != 0) = false := by simp; omega
    by_cases h2 : 80 < s.size
    · clear h
      go_enter Try.func51, Try.ntmps51
      go_wp2_with (go_at_call 56; refine (NewWriterException_any _ _).mono ?_; rintro e w1 ⟨⟨u, x, rfl⟩, hb1⟩)
      go_ret2
      exact ⟨⟨_, _, rfl⟩, Below.two (by go_grown) hb1 (by simp <;> omega)⟩
    · rcases h with h | h | ⟨ha, hd⟩
      · exact absurd h h1
      · exact absurd h h2
      · have HA := Lib.hid ha
        have HD := Lib.hid hd
        clear ha hd
        go_enter Try.func51, Try.ntmps51
        go_wp2_with fail
        refine (checkNumeric_any s _ HA.out (by omega)).mono ?_
        rintro e w1 ⟨⟨h, _⟩ | ⟨_, u, y, rfl⟩, hb1⟩
        · exact absurd h HD.out
        · go_wp2_with fail
          refine (WrapWriterException_any _ (.inr ⟨_, _, rfl⟩) _).mono ?_
          rintro e w2 ⟨⟨u2, y2, rfl⟩, hb2⟩
          have hb := Below.two hb1 hb2 hb1.size
          go_wp2
          go_ret2
          exact ⟨⟨_, _, rfl⟩, Below.two (by go_grown) hb (by simp <;> omega)⟩

set_option maxHeartbeats 4000000 in
set_option maxRecDepth 100000 in
theorem itfEnc_ok (s : ByteArray) (w : World) (hs : s.size ≤ 80) (hev : s.size % 2 = 0) (hd : allDig s) (x : Value) :
    Calls Try.prog 51 #[.agg #[], .string s, x] w fun e w' =>
      (∃ v, e = .returned (.tuple #[v, .nilIface]) ∧ w'.ownsRow w.heap.size 4 1 v (bars (itfWidths (bl s))).length ((bars (itfWidths (bl s))).map .bool)) ∧ Below w.heap.size w w' := by
  obtain ⟨i0, hi, hz0, hz1, hz2⟩ := info_parts info_int
  obtain ⟨j0, hj, hy0, hy1, hy2⟩ := info_parts info_bool
  have HBL := Lib.hid (bl_length s)
  have HD := Lib.hid hd
  have h1' : ((s.size : Int) % 2 != 0) = false := by simp; omega
  clear hd
  go_enter Try.func51, Try.ntmps51
  go_wp2_with fail
  refine (checkNumeric_any s _ (fun i hi => by have := HD.out i hi; unfold isDig at this; omega) (by omega)).mono ?_
  rintro e w1 ⟨⟨_, rfl⟩ | ⟨h, _⟩, hb1⟩
  case inr => exact absurd HD.out h
  have hb1' : Below w.heap.size w w1 := Below.two (by go_grown) hb1 (by simp <;> omega)
  clear hb1
  go_wp2_with (at_make; refine wpList_make_full _ rfl _ _ 24 rfl w.heap.size 4 j0 (.bool false) 1 Try.underlying24 hj hy0 hy1 _ _ _ _ (9 + 9 * s.size) rfl rfl ?a1 ?a2 ?b1 ?b2 ?b3 ?_)
  case a1 => omega
  case a2 => omega
  case b1 => rw [hy2]; omega
  case b2 => unfold maxLen; omega
  case b3 => exact hb1'.size
  intro w2 hown hgrow
  have hb2' : Below w.heap.size w w2 := hb1'.grown hgrow hb1'.size (fun k hk => by cases hk)
  rw [made_bools] at hown
  have hsz := hgrow.size
  have hg0 := hb1'.size
  obtain ⟨hg1, hg2⟩ := hown.lt _ rfl
  clear hgrow hb1'
  generalize w1.heap.size = g at *
  generalize hN : 9 + 9 * s.size = N at *
  have HN := Lib.hid hN
  have hN1 : N ≤ 1000 := by omega
  clear hN
  go_wp2_with fail
  refine (itfSTART_any _).mono ?_
  rintro e w3 ⟨⟨v3, rfl, hs3, hv3⟩, hb3⟩
  have hb3' := Below.two hb2' hb3 hb2'.size
  have hown3 := own_below hown hb3
  have hg3 : g < w3.heap.size := by have := hb3.size; omega
  clear hown hb2' hb3
  go_wp2_with fail
  refine (appendPattern_any g N N w.heap.size [] [1, 1, 1, 1] _ _ true _ hown3 rfl hs3 (by rw [hv3]; intro e; injection e; omega) (by rw [← HN.out]; simp; omega) (by omega)).mono ?_
  rintro e w4 ⟨rfl, hown4, hg4⟩
  have hb4 : Below w.heap.size w w4 := hb3'.grown hg4 hb3'.size (fun k hk => by injection hk; omega)
  have hz4 := hg4.size
  have hown4' : w4.ownsRow w.heap.size 4 1 (.slice (some ⟨g, 0, none⟩) N N) N (fillB N (itfMods (bl s) 0)) := hown4
  clear hown4 hown3 hb3' hs3 hg4 hv3
  go_wp2
  go_loopw [11, 12, 13, 14, 15, 16] (fun p i _ _ _ _ wr => ∃ n : Nat, 2 * n ≤ s.size ∧ i = .int .i64 ((2 * n : Nat) : Int) ∧ p = .int .i64 ((itfMods (bl s) n).length : Int) ∧ wr.ownsRow w.heap.size 4 1 (.slice (some ⟨g, 0, none⟩) N N) N (fillB N (itfMods (bl s) n)) ∧ Below w.heap.size w wr ∧ g < wr.heap.size) (fun _ i _ _ _ _ _ => s.size - (intOf i).toNat)
  case atStart => exact ⟨0, by omega, rfl, rfl, hown4', hb4, by omega⟩
  case round =>
    clear hown4' hb4
    obtain ⟨n, hn, rfl, rfl, hown, hb, hgr⟩ := hrel
    by_cases hlt : 2 * n < s.size
    · have hlt2 : 2 * n + 1 < s.size := by omega
      have d1 := HD.out (2 * n) hlt
      have d2 := HD.out (2 * n + 1) hlt2
      have g1 := bl_get s (2 * n) hlt
      have g2 := bl_get s (2 * n + 1) hlt2
      have hms := Lib.hid (itfMods_succ (bl s) n)
      have hml := itfMods_length (bl s) n (fun i hi => HD.out i (by omega))
      have hps := itfPair_sum _ _ d1 d2
      have hta := Lib.hid (itfEl_tbl _ d1)
      have htb := Lib.hid (itfEl_tbl _ d2)
      generalize nthU (bl s) (2 * n) = A at *
      generalize nthU (bl s) (2 * n + 1) = B at *
      obtain ⟨d1, d1'⟩ := d1
      obtain ⟨d2, d2'⟩ := d2
      have hML : (itfMods (bl s) n).length + 18 + 5 ≤ N := by rw [← HN.out]; omega
      have Hps := Lib.hid hps
      have Hml := Lib.hid hml
      generalize itfMods (bl s) n = M at *
      clear hps hml
      have hsz5 := hb.size
      go_wp2_with (at_make; refine wpList_make_full _ rfl _ _ 35 rfl w.heap.size 3 i0 (.int .i64 0) 1 Try.underlying35 hi hz0 hz1 _ _ _ _ 10 rfl rfl rfl rfl ?b1 ?b2 ?b3 ?_)
      case b1 => rw [hz2]; omega
      case b2 => unfold maxLen; omega
      case b3 => exact hsz5
      intro w5 hen hgrow
      have hb5 : Below w.heap.size w w5 := hb.grown hgrow hsz5 (fun k hk => by cases hk)
      have hown5 := hown.kept hgrow (.inr (fun e => by cases e))
      obtain ⟨he1, he2⟩ := hen.lt _ rfl
      have hgh : g ≠ wr.heap.size := by omega
      have hg5 : g < w5.heap.size := by have := hgrow.size; omega
      rw [made_ints 10 (itfPair A B)] at hen
      clear hgrow hown hb
      generalize wr.heap.size = h at *
      go_wp2
      obtain ⟨wo, rfl⟩ : ∃ wo : World, wo = wr := ⟨_, rfl⟩
      go_loopw [16] (fun k wr => ∃ j : Nat, j ≤ 5 ∧ k = .int .i64 j ∧ wr.ownsRow w.heap.size 3 1 (.slice (some ⟨h, 0, none⟩) 10 10) 10 (fillI 10 (itfPair A B) (2 * j)) ∧ wr.ownsRow w.heap.size 4 1 (.slice (some ⟨g, 0, none⟩) N N) N (fillB N M) ∧ Below w.heap.size w wr ∧ g < wr.heap.size ∧ h < wr.heap.size) (fun k _ => 5 - (intOf k).toNat)
      case atStart => exact ⟨0, Nat.zero_le _, rfl, hen, hown5, hb5, hg5, he2⟩
      case round =>
        clear hen hown5 hb5 hg5 he2
        obtain ⟨j, hj, rfl, hen, hown, hb, hgr, hhr⟩ := hrel
        by_cases hj5 : j < 5
        · have hpl := itfPair_length A B
          have hfl := flat2_nth (fun k => nth (itfEl A) k) (fun k => nth (itfEl B) k) 5 j hj5
          have hf0 : Hid (nth (itfPair A B) (2 * j) = nth (itfEl A) j) := Lib.hid hfl.1
          have hf1 : Hid (nth (itfPair A B) (2 * j + 1) = nth (itfEl B) j) := Lib.hid hfl.2
          clear hfl
          go_wp2_with fail
          refine (itfPATTERNS_any _).mono ?_
          rintro e w6 ⟨⟨ta, tc, rfl, ht⟩, hb6⟩
          have hb6' := Below.two hb hb6 hb.size
          have hen6 := own_below hen hb6
          have hown6 := own_below hown hb6
          have hz6 := hb6.size
          obtain ⟨pb, po, ra, rc, rfl, hrow, hsl⟩ := ht.get (A.toNat - 48) (by show _ < 10; omega)
          rw [hta.out] at hrow hsl
          obtain ⟨qb, qo, rfl, hcell⟩ := hsl.getI j (by rw [itfEl_length]; exact hj5)
          rw [itfEl_length] at hrow
          have hc := hen6.cellAt (2 * j) (by omega)
          rw [fillI_get _ _ _ hpl (by omega)] at hc
          have hf := hen6.frozenAt (2 * j)
          have st := hen6.stored (2 * j) (.int .i64 (nth (itfPair A B) (2 * j) : Int))
          rw [fillI_set _ _ _ hpl (by omega), hf0.out] at st
          have hen7 := st.1
          have hown7 := hown6.kept st.2 (.inr (by simp [Value.ownBlock]; omega))
          have hb7 : Below w.heap.size w (w6.setCell ⟨h, 2 * j, none⟩ (.int .i64 (nth (itfEl A) j : Int))) := hb6'.setCell (by simp; omega) _
          clear st hen hown hb hb6 ht hsl hb6' hen6 hown6
          have e1 : ((A.toNat : Int) - 48).toNat = A.toNat - 48 := by omega
          go_wp2_with fail
          refine (itfPATTERNS_any _).mono ?_
          rintro e w8 ⟨⟨ta, tc, rfl, ht⟩, hb8⟩
          have hb8' := Below.two hb7 hb8 hb7.size
          have hen8 := own_below hen7 hb8
          have hown8 := own_below hown7 hb8
          have hz8 := hb8.size
          simp only [World.size_setCell] at hz8
          obtain ⟨pb', po', ra', rc', rfl, hrow', hsl'⟩ := ht.get (B.toNat - 48) (by show _ < 10; omega)
          rw [htb.out] at hrow' hsl'
          obtain ⟨qb', qo', rfl, hcell'⟩ := hsl'.getI j (by rw [itfEl_length]; exact hj5)
          rw [itfEl_length] at hrow'
          have hc8 := hen8.cellAt (2 * j + 1) (by omega)
          rw [fillI_get _ _ _ hpl (by omega)] at hc8
          have hf8 := hen8.frozenAt (2 * j + 1)
          have st := hen8.stored (2 * j + 1) (.int .i64 (nth (itfPair A B) (2 * j + 1) : Int))
          rw [fillI_set _ _ _ hpl (by omega), hf1.out] at st
          have hen9 := st.1
          have hown9 := hown8.kept st.2 (.inr (by simp [Value.ownBlock]; omega))
          have hb9 : Below w.heap.size w (w8.setCell ⟨h, 2 * j + 1, none⟩ (.int .i64 (nth (itfEl B) j : Int))) := hb8'.setCell (by simp; omega) _
          clear st hen7 hown7 hb7 hb8 ht hsl' hb8' hen8 hown8 hc hf hcell hrow
          have e2 : ((B.toNat : Int) - 48).toNat = B.toNat - 48 := by omega
          go_wp2
          go_roundw
          case rel => exact ⟨j + 1, by omega, by go_num, hen9, hown9, hb9, by simp; omega, by simp; omega⟩
          case measure => simp [intOf]; omega
        · have hj5' : j = 5 := by omega
          subst hj5'
          rw [fillI_full 10 (itfPair A B) (itfPair_length A B)] at hen
          have hse := SlAt.of_own hen
          clear hen
          go_wp2_with fail
          refine (appendPattern_any g N N w.heap.size M (itfPair A B) _ _ true _ hown rfl hse (fun e => hgh (by injection e with e; exact e.symm)) (by rw [Hps.out]; omega) (by omega)).mono ?_
          rintro e w6 ⟨rfl, hown6, hg6⟩
          have hb6 : Below w.heap.size w w6 := hb.grown hg6 hb.size (fun k hk => by injection hk; omega)
          have hz6 := hg6.size
          rw [← hms.out] at hown6
          have hl6 : Hid ((M.length : Int) + ((itfPair A B).sum : Int) = ((itfMods (bl s) (n + 1)).length : Int)) := Lib.hid (by rw [hms.out, List.length_append, barsFrom_length]; omega)
          have hps18 : (itfPair A B).sum ≤ 18 := by rw [Hps.out]; omega
          clear hown hb hg6 hse
          go_wp2
          go_roundw
          case rel => exact ⟨n + 1, by omega, by go_num, by rw [← hl6.out], hown6, hb6, by omega⟩
          case measure => simp [intOf]; omega
    · have hn2 : n = s.size / 2 := by omega
      have hml := itfMods_length (bl s) n (fun i hi => HD.out i (by omega))
      have hend : Hid (itfMods (bl s) n ++ barsFrom true [3, 1, 1] = bars (itfWidths (bl s))) := Lib.hid (by rw [← itfMods_end, HBL.out, hn2])
      have hlen : Hid ((bars (itfWidths (bl s))).length = N) := Lib.hid (by rw [← hend.out, ← HN.out, List.length_append, hml]; show 4 + 18 * n + 5 = _; omega)
      have hML : (itfMods (bl s) n).length + 5 ≤ N := by rw [← HN.out, hml]; omega
      generalize itfMods (bl s) n = M at *
      clear hn2 hml
      go_wp2_with fail
      refine (itfEND_any _).mono ?_
      rintro e w5 ⟨⟨v5, rfl, hs5, hv5⟩, hb5⟩
      have hb5' := Below.two hb hb5 hb.size
      have hown5 := own_below hown hb5
      have hg5 : g < w5.heap.size := by have := hb5.size; omega
      have hvg : v5.ownBlock ≠ some g := by rw [hv5]; intro e; injection e; omega
      clear hb5 hown hb hv5
      go_wp2_with fail
      refine (appendPattern_any g N N w.heap.size M [3, 1, 1] _ _ true _ hown5 rfl hs5 hvg (by simp; omega) (by omega)).mono ?_
      rintro e w6 ⟨rfl, hown6, hg6⟩
      have hb6 : Below w.heap.size w w6 := hb5'.grown hg6 hb5'.size (fun k hk => by injection hk; omega)
      rw [hend.out, fillB_full _ _ hlen.out] at hown6
      clear hown5 hg6
      go_wp2
      go_ret2
      exact ⟨⟨_, rfl, by rw [hlen.out]; exact hown6⟩, hb6⟩
end Go.Proofs.Ytkpdiidmedfbgaa
