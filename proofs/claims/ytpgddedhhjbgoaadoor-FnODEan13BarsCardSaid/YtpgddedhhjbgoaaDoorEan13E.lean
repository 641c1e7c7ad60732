/- Walks: the encoder of EAN-13. (Printed by gen13E.py.) -/
import Derived.Test.YtpgddedhhjbgoaaDoorEanG
import Derived.Test.YtpgddedhhjbgoaaDoorEan13M
import Derived.Test.YtpgddedhhjbgoaaDoorApp
import Derived.Test.YtpgddedhhjbgoaaDoorNum
namespace Go.Proofs.YtpgddedhhjbgoaaDoor
open Go.RowKit

/-- What is written for a text of EAN-13. -/
def row13 (s : ByteArray) : List Bool := eanRow ((withChk s 12).extract 1 7) (sets13 (nthU (withChk s 12) 0)) ((withChk s 12).drop 7)
def enc13T : List Nat := [0, 11, 13, 14, 19, 25, 28, 21, 22, 26]
theorem par13 : ∀ d, d < 10 → ∀ k, k < 6 → ((nth enc13T d >>> (5 - k)) % 2 = 1 ↔ nthU (bl (sets13T.getD d ⟨#[]⟩)) k = 66) := by decide
theorem no67 : ∀ d, d < 10 → ∀ k, k < 6 → nthU (bl (sets13T.getD d ⟨#[]⟩)) k ≠ 67 := by decide
theorem itoa_b (n : Nat) (h : n < 10) (B : UInt8) (hB : UInt8.ofNat (48 + n) = B) (w : World) :
    Calls Tryd.prog 32 #[.int .i64 n] w fun e w' => e = .returned (.string ⟨#[B]⟩) ∧ w' = w := by
  subst hB; exact itoa_digit n h w
theorem first13_any (w : World) :
    Calls Tryd.prog 39 #[] w fun e w' => (∃ a c, e = .returned (.slice a 10 c) ∧ SlAt w' (.slice a 10 c) (enc13T.map I64)) ∧ Below w.heap.size w w' := by
  go_enter Tryd.func39, Tryd.ntmps39
  go_wp2
  go_ret
  exact ⟨⟨_, _, rfl, SlAt.of_own (own_lit w 3 (enc13T.map I64) (by decide))⟩, below_alloc _ _⟩

set_option maxHeartbeats 1500000 in
set_option maxRecDepth 100000 in
theorem enc13_twelve (s : ByteArray) (w : World) (hs : s.size = 12) (hd : allDig s) (x : Value) :
    Calls Tryd.prog 28 #[.agg #[], .string s, x] w fun e w' =>
      (∃ v, e = .returned (.tuple #[v, .nilIface]) ∧ w'.ownsRow w.heap.size 4 1 v 95 ((row13 s).map .bool)) ∧ Below w.heap.size w w' := by
  obtain ⟨j0, hj, hy0, hy1, hy2⟩ := info_parts info_bool
  have hck := eanChk_lt (bl s)
  have htk : (bl s).take 12 = bl s := List.take_of_length_le (by rw [bl_length]; omega)
  have hr13 : (s ++ ⟨#[chkB (bl s)]⟩ : ByteArray).size = 13 := by rw [ByteArray.size_append', hs]; rfl
  have hblr : bl (s ++ ⟨#[chkB (bl s)]⟩) = bl s ++ [chkB (bl s)] := by rw [bl_append]; rfl
  have HWC : Hid (bl (s ++ ⟨#[chkB (bl s)]⟩) = withChk s 12) := Lib.hid (by rw [hblr, withChk, htk])
  have HRD : Hid (allDig (s ++ ⟨#[chkB (bl s)]⟩)) := Lib.hid (fun i hi => by
    rw [hblr]
    by_cases h : i < s.size
    · have e : nthU (bl s ++ [chkB (bl s)]) i = nthU (bl s) i := by
        simp only [nthU, List.getD]; rw [List.getElem?_append_left (by rw [bl_length]; exact h)]
      rw [e]; exact hd i h
    · have e : nthU (bl s ++ [chkB (bl s)]) i = chkB (bl s) := by
        have : i = (bl s).length := by rw [bl_length]; omega
        rw [this]; simp [nthU, List.getD]
      rw [e]; exact chkB_dig _)
  have HD := Lib.hid hd
  clear hd htk hblr
  have hb00 : Below w.heap.size w (w.alloc (.cells #[] 45)) := below_alloc _ _
  go_enter Tryd.func28, Tryd.ntmps28
  go_wp2_with fail
  refine (getChk_any s (by omega) _).mono ?_
  rintro e wa ⟨hcase, hba⟩
  have hb0 := Below.two hb00 hba hb00.size
  clear hb00 hba
  rcases hcase with ⟨_, rfl⟩ | ⟨hno, _⟩
  case inr => exact absurd HD.out hno
  have hBk : UInt8.ofNat (48 + eanChk (bl s)) = chkB (bl s) := rfl
  generalize eanChk (bl s) = ck at *
  generalize chkB (bl s) = B at *
  have HBK := Lib.hid hBk
  clear hBk
  go_wp2_with fail
  refine (itoa_b ck hck B HBK.out _).mono ?_
  rintro e wb ⟨rfl, rfl⟩
  have hs1 : (⟨#[B]⟩ : ByteArray).size = 1 := rfl
  go_wp2_with fail
  generalize s ++ ⟨#[B]⟩ = r at *
  have HLOW : Hid (∀ i, i < r.size → (nthU (bl r) i).toNat < 128) := Lib.hid (fun i hi => by have := HRD.out i hi; unfold isDig at this; omega)
  have hbl : (bl r).length = 13 := by rw [bl_length]; exact hr13
  have hx : (bl r).extract 1 7 = ((bl r).take 7).drop 1 := by rw [List.extract_eq_take_drop, List.drop_take]
  have hln : ∀ k, k < 6 → nthU ((bl r).extract 1 7) k = nthU (bl r) (1 + k) := fun k hk => by
    rw [hx]; simp only [nthU, List.getD, List.getElem?_drop, List.getElem?_take]; rw [if_pos (by omega)]
  have hrd8 : ∀ k, nthU ((bl r).drop 7) k = nthU (bl r) (7 + k) := fun k => by simp [nthU, List.getD, List.getElem?_drop]
  have HLD : Hid (∀ k, k < 6 → isDig (nthU ((bl r).extract 1 7) k)) := Lib.hid (fun k hk => by rw [hln k hk]; exact HRD.out (1 + k) (by omega))
  have HRR : Hid (∀ k, k < 6 → isDig (nthU ((bl r).drop 7) k)) := Lib.hid (fun k hk => by rw [hrd8]; exact HRD.out (7 + k) (by omega))
  have HBL : Hid (∀ ii k, k + 1 = ii → (h : k < 6) → (h2 : ii < r.size) → r[ii]'h2 = nthU ((bl r).extract 1 7) k) := Lib.hid (fun ii k hik hk h2 => by rw [hln k hk, bl_get r ii h2, ← hik, Nat.add_comm])
  have HBR : Hid (∀ k, (h : k < 6) → r[7 + k]'(by omega) = nthU ((bl r).drop 7) k) := Lib.hid (fun k hk => by rw [hrd8]; exact bl_get r (7 + k) (by omega))
  have HLL : Hid (((bl r).extract 1 7).length = 6) := Lib.hid (by rw [hx, List.length_drop, List.length_take, hbl]; rfl)
  have HRL : Hid (((bl r).drop 7).length = 6) := Lib.hid (by rw [List.length_drop, hbl])
  have HFIN : Hid (eanRow ((bl r).extract 1 7) (sets13 (nthU (bl r) 0)) ((bl r).drop 7) = row13 s) := Lib.hid (by rw [row13, ← HWC.out])
  have hg0 := bl_get r 0 (by omega)
  have HD0 := Lib.hid (HRD.out 0 (by omega))
  generalize (bl r).extract 1 7 = left at *
  generalize (bl r).drop 7 = right at *
  generalize nthU (bl r) 0 = c0 at *
  obtain ⟨d0, hd0⟩ : ∃ d, c0.toNat = 48 + d := ⟨c0.toNat - 48, by have := HD0.out; unfold isDig at this; omega⟩
  have hd010 : d0 < 10 := by have := HD0.out; unfold isDig at this; omega
  have HPAR : Hid (∀ k, k < 6 → ((nth enc13T d0 >>> (5 - k)) % 2 = 1 ↔ nthU (sets13 c0) k = 66)) := Lib.hid (fun k hk => by
    rw [sets13, show c0.toNat - 48 = d0 by omega]; exact par13 d0 hd010 k hk)
  have HSE67 : Hid (∀ k, k < 6 → nthU (sets13 c0) k ≠ 67) := Lib.hid (fun k hk => by
    rw [sets13, show c0.toNat - 48 = d0 by omega]; exact no67 d0 hd010 k hk)
  generalize sets13 c0 = sets at *
  clear hrd8 hbl hx hln
  refine (checkNumeric_any r _ HLOW.out (by omega)).mono ?_
  rintro e w1 ⟨hcase, hb1⟩
  have hb1w := Below.two hb0 hb1 hb0.size
  clear hb0 hb1
  rcases hcase with ⟨_, rfl⟩ | ⟨hno, _⟩
  case inr => exact absurd HRD.out hno
  go_wp2_with fail
  refine (first13_any _).mono ?_
  rintro e wt ⟨⟨fa, fc, rfl, hft⟩, hbt⟩
  have hbtw := Below.two hb1w hbt hb1w.size
  clear hb1w hbt hg0
  have hb1w := hbtw
  clear hbtw
  obtain ⟨fb, fo, rfl, hfc⟩ := hft.getI d0 (by show d0 < 10; exact hd010)
  have hpar := nth_le (show ∀ x ∈ enc13T, x ≤ 1000 by decide) d0
  generalize nth enc13T d0 = par at *
  clear hft
  have hsz1 := hb1w.size
  go_wp2_with (at_make; refine wpList_make_full _ rfl _ _ 24 rfl w.heap.size 4 j0 (.bool false) 1 Tryd.underlying24 hj hy0 hy1 _ _ _ _ 95 rfl rfl rfl rfl (by rw [hy2]; omega) (by unfold maxLen; omega) hsz1 ?_)
  intro w2 hown hgrow
  have hb2 : Below w.heap.size w w2 := hb1w.grown hgrow hsz1 (fun k hk => by cases hk)
  obtain ⟨hg1, hg2⟩ := hown.lt _ rfl
  rw [made_bools] at hown
  clear hgrow hb1w
  generalize wt.heap.size = g at *
  go_wp2_with fail
  refine (startEnd_any _).mono ?_
  rintro e w3 ⟨⟨v3, rfl, hs3, ho3⟩, hb3⟩
  have hb3w := Below.two hb2 hb3 hb2.size
  have hb3z : g < w3.heap.size := by have := hb3.size; omega
  have hown3 := own_below hown hb3
  have hgv : v3.ownBlock ≠ some g := by rw [ho3]; intro e; injection e; omega
  clear hb2 hb3 hown ho3 hg2
  go_wp2_with fail
  refine (appendPattern_any g 95 95 w.heap.size [] [1, 1, 1] _ _ true _ hown3 rfl hs3 hgv (by decide) (by omega)).mono ?_
  rintro e w4 ⟨rfl, hown4, hg4⟩
  have hb4 : Below w.heap.size w w4 := hb3w.grown hg4 hb3w.size (fun k hk => by injection hk; omega)
  rw [show [] ++ barsFrom true [1, 1, 1] = eanL left sets 0 by simp [eanL, leftM]] at hown4
  have hp0 : Hid ((0 : Int) + (([1, 1, 1] : List Nat).sum : Int) = ((eanL left sets 0).length : Int)) := Lib.hid (by simp [eanL, leftM, barsFrom])
  have hg4s : g < w4.heap.size := by have := hg4.size; have := hb3z; omega
  clear hb3w hg4 hown3 hs3 hgv
  go_wp2
  go_loopw [17, 18, 19] (fun p i _ wr => ∃ ii k : Nat, k + 1 = ii ∧ k ≤ 6 ∧ i = .int .i64 ii ∧ p = .int .i64 ((eanL left sets k).length : Int) ∧ wr.ownsRow w.heap.size 4 1 (.slice (some ⟨g, 0, none⟩) 95 95) 95 (fillB 95 (eanL left sets k)) ∧ Below w.heap.size w wr ∧ g < wr.heap.size) (fun _ i _ _ => 7 - (intOf i).toNat)
  case atStart => exact ⟨1, 0, rfl, Nat.zero_le _, rfl, by first | rfl | (rw [← hp0.out]; rfl), hown4, hb4, hg4s⟩
  case round =>
    clear hown4 hb4
    obtain ⟨ii, k, hik, hk, rfl, rfl, hown, hb, hgs⟩ := hrel
    have hel := eanL_length left sets k (fun i hi => HLD.out i (by omega))
    by_cases hlt : k < 6
    · have hii : ii ≤ 6 := by omega
      have hir : ii < r.size := by omega
      have hbyte := HBL.out ii k hik hlt hir
      obtain ⟨hd1, hd2⟩ := HLD.out k hlt
      obtain ⟨f1, f2, f3⟩ := eanEl_facts (HLD.out k hlt)
      have hnx : Hid (eanL left sets (k + 1) = eanL left sets k ++ dmods (nthU sets k) (nthU left k)) := Lib.hid (eanL_succ _ _ _)
      have hnl : (eanL left sets (k + 1)).length = 3 + 7 * (k + 1) := eanL_length left sets (k + 1) (fun i hi => HLD.out i (by omega))
      have hpk := HPAR.out k hlt
      have hs67 := HSE67.out k hlt
      obtain ⟨q, hq⟩ : ∃ q, q + ii = 6 := ⟨6 - ii, by omega⟩
      rw [show 5 - k = q by omega] at hpk
      have hqi : (6 : Int) - (ii : Int) = (q : Int) := by omega
      have hq5 : q ≤ 6 := by omega
      generalize hcc : nthU left k = c at *
      generalize nthU sets k = se at *
      have HNL := Lib.hid hnl
      clear hnl hcc hq
      obtain ⟨d, hd⟩ : ∃ d, c.toNat = 48 + d := ⟨c.toNat - 48, by omega⟩
      have hd10 : d < 10 := by omega
      have hELd : nthL eanW d = eanEl c := by rw [eanEl, show c.toNat - 48 = d by omega]
      have hroom : (eanL left sets k).length + 7 ≤ 95 := by omega
      have HEL7 := Lib.hid hel
      have HIK := Lib.hid hik
      clear hel hik
      generalize eanL left sets k = M at *
      by_cases hse : se = 66
      · have hbz := bit_yes par q (by omega) (hpk.2 hse)
        have hEL : Hid (nthL lgW (d + 10) = (eanEl c).reverse) := Lib.hid (by rw [Nat.add_comm, lgW_high d hd10, hELd])
        have hdm : Hid (dmods se c = barsFrom false (eanEl c).reverse) := Lib.hid (by rw [dmods, if_pos hse])
        have g1 : (eanEl c).reverse.length = 4 := by rw [List.length_reverse, f1]
        have g2 : (eanEl c).reverse.sum = 7 := by rw [sum_rev, f2]
        clear hpk hse hELd
        go_wp2_with fail
        refine (lgPatterns_any _).mono ?_
        rintro e w5 ⟨⟨ta, tc, rfl, ht⟩, hb5⟩
        have hb5w := Below.two hb hb5 hb.size
        have hb5z : g < w5.heap.size := by have := hb5.size; omega
        have hown5 := own_below hown hb5
        obtain ⟨tb, to, ra, rc, rfl, hcell, hrow, hnew⟩ := ht.get (d + 10) (by show d + 10 < 20; omega)
        have hgb : (Value.slice ra (nthL lgW (d + 10)).length rc).ownBlock ≠ some g := fun e => by have := hnew g e; omega
        clear hnew
        rw [hEL.out] at hcell hrow hgb
        rw [g1] at hcell hrow hgb
        clear hb hb5 hown ht
        go_wp2_with fail
        refine (appendPattern_any g 95 95 w.heap.size M ((eanEl c).reverse) _ _ false _ hown5 rfl hrow hgb (by rw [g2]; omega) (by omega)).mono ?_
        rintro e w6 ⟨rfl, hown6, hg6⟩
        have hg6s : g < w6.heap.size := by have := hg6.size; have := hb5z; omega
        have hb6 : Below w.heap.size w w6 := hb5w.grown hg6 hb5w.size (fun k hk => by injection hk; omega)
        rw [← hdm.out, ← hnx.out] at hown6
        clear hb5w hg6 hown5 hrow hgb hcell hbz
        go_wp2
        go_roundw
        case rel => exact ⟨ii + 1, k + 1, by have := HIK.out; omega, by omega, by go_num, by rw [HNL.out]; have := HEL7.out; go_num, hown6, hb6, hg6s⟩
        case measure => simp [intOf]; omega
      · have hbz := bit_no par q (by omega) (fun h => hse (hpk.1 h))
        have hse67 : se ≠ 67 := hs67
        have hEL : Hid (nthL lgW d = eanEl c) := Lib.hid (by rw [lgW_low d hd10, hELd])
        have hdm : Hid (dmods se c = barsFrom false (eanEl c)) := Lib.hid (by rw [dmods, if_neg hse, if_neg hse67])
        have g1 := f1
        have g2 := f2
        clear hpk hse hELd
        go_wp2_with fail
        refine (lgPatterns_any _).mono ?_
        rintro e w5 ⟨⟨ta, tc, rfl, ht⟩, hb5⟩
        have hb5w := Below.two hb hb5 hb.size
        have hb5z : g < w5.heap.size := by have := hb5.size; omega
        have hown5 := own_below hown hb5
        obtain ⟨tb, to, ra, rc, rfl, hcell, hrow, hnew⟩ := ht.get (d) (by show d < 20; omega)
        have hgb : (Value.slice ra (nthL lgW (d)).length rc).ownBlock ≠ some g := fun e => by have := hnew g e; omega
        clear hnew
        rw [hEL.out] at hcell hrow hgb
        rw [g1] at hcell hrow hgb
        clear hb hb5 hown ht
        go_wp2_with fail
        refine (appendPattern_any g 95 95 w.heap.size M (eanEl c) _ _ false _ hown5 rfl hrow hgb (by rw [g2]; omega) (by omega)).mono ?_
        rintro e w6 ⟨rfl, hown6, hg6⟩
        have hg6s : g < w6.heap.size := by have := hg6.size; have := hb5z; omega
        have hb6 : Below w.heap.size w w6 := hb5w.grown hg6 hb5w.size (fun k hk => by injection hk; omega)
        rw [← hdm.out, ← hnx.out] at hown6
        clear hb5w hg6 hown5 hrow hgb hcell hbz
        go_wp2
        go_roundw
        case rel => exact ⟨ii + 1, k + 1, by have := HIK.out; omega, by omega, by go_num, by rw [HNL.out]; have := HEL7.out; go_num, hown6, hb6, hg6s⟩
        case measure => simp [intOf]; omega
    · have hk6 : k = 6 := by omega
      subst hk6
      have hM5 : Hid (eanR left sets right 0 = eanL left sets 6 ++ barsFrom false [1, 1, 1, 1, 1]) := Lib.hid (by
        rw [eanR, HLL.out]; simp [rightM])
      have hr0 : Hid ((eanR left sets right 0).length = 50) := Lib.hid (by rw [hM5.out, List.length_append, hel]; rfl)
      have hroom : (eanL left sets 6).length + 5 ≤ 95 := by omega
      have HEL7 := Lib.hid hel
      clear hel
      generalize eanL left sets 6 = M at *
      go_wp2_with fail
      refine (middle_any _).mono ?_
      rintro e w5 ⟨⟨v5, rfl, hs5, ho5⟩, hb5⟩
      have hb5w := Below.two hb hb5 hb.size
      have hb5z : g < w5.heap.size := by have := hb5.size; omega
      have hown5 := own_below hown hb5
      have hgv : v5.ownBlock ≠ some g := by rw [ho5]; intro e; injection e; omega
      clear hb hb5 hown ho5
      go_wp2_with fail
      refine (appendPattern_any g 95 95 w.heap.size M [1, 1, 1, 1, 1] _ _ false _ hown5 rfl hs5 hgv (by show _ + 5 ≤ 95; omega) (by omega)).mono ?_
      rintro e w6 ⟨rfl, hown6, hg6⟩
      have hg6s : g < w6.heap.size := by have := hg6.size; omega
      have hb6 : Below w.heap.size w w6 := hb5w.grown hg6 hb5w.size (fun k hk => by injection hk; omega)
      rw [← hM5.out] at hown6
      have hp6 : Hid ((M.length : Int) + 5 = ((eanR left sets right 0).length : Int)) := Lib.hid (by have h1 := hr0.out; have h2 := HEL7.out; omega)
      clear hb5w hg6 hown5 hs5 hgv
      go_wp2
      go_loopw [17, 20, 21] (fun p i _ wr => ∃ k : Nat, k ≤ 6 ∧ i = .int .i64 ((7 : Int) + k) ∧ p = .int .i64 ((eanR left sets right k).length : Int) ∧ wr.ownsRow w.heap.size 4 1 (.slice (some ⟨g, 0, none⟩) 95 95) 95 (fillB 95 (eanR left sets right k)) ∧ Below w.heap.size w wr ∧ g < wr.heap.size) (fun _ i _ _ => 13 - (intOf i).toNat)
      case atStart => exact ⟨0, Nat.zero_le _, by simp, by rw [← hp6.out], hown6, hb6, hg6s⟩
      case round =>
        clear hown6 hb6 hg6s
        obtain ⟨k, hk, rfl, rfl, hown, hb, hgs⟩ := hrel
        have hel := eanR_length left sets right k (fun i hi => HLD.out i (by have := HLL.out; omega)) (fun i hi => HRR.out i (by omega))
        rw [HLL.out] at hel
        by_cases hlt : k < 6
        · have hbyte := HBR.out k hlt
          have htn : ((7 : Int) + (k : Int)).toNat = 7 + k := by omega
          obtain ⟨hd1, hd2⟩ := HRR.out k hlt
          obtain ⟨f1, f2, f3⟩ := eanEl_facts (HRR.out k hlt)
          have hnx : Hid (eanR left sets right (k + 1) = eanR left sets right k ++ barsFrom true (eanEl (nthU right k))) := Lib.hid (by
            rw [eanR_succ, dmods, if_neg (by decide), if_pos rfl])
          have hnl := eanR_length left sets right (k + 1) (fun i hi => HLD.out i (by have := HLL.out; omega)) (fun i hi => HRR.out i (by omega))
          rw [HLL.out] at hnl
          generalize hcc : nthU right k = c at *
          have HNL := Lib.hid hnl
          clear hnl hcc
          obtain ⟨d, hd⟩ : ∃ d, c.toNat = 48 + d := ⟨c.toNat - 48, by omega⟩
          have hd10 : d < 10 := by omega
          have hEL : Hid (nthL eanW d = eanEl c) := Lib.hid (by rw [eanEl, show c.toNat - 48 = d by omega])
          have hroom : (eanR left sets right k).length + 7 ≤ 95 := by omega
          have HEL8 := Lib.hid hel
          clear hel
          generalize eanR left sets right k = M2 at *
          go_wp2_with fail
          refine (lPatterns_any _).mono ?_
          rintro e w5 ⟨⟨ta, tc, rfl, ht⟩, hb5⟩
          have hb5w := Below.two hb hb5 hb.size
          have hb5z : g < w5.heap.size := by have := hb5.size; omega
          have hown5 := own_below hown hb5
          obtain ⟨tb, to, ra, rc, rfl, hcell, hrow, hnew⟩ := ht.get d (by show d < 10; exact hd10)
          have hgb : (Value.slice ra (nthL eanW d).length rc).ownBlock ≠ some g := fun e => by have := hnew g e; omega
          clear hnew
          rw [hEL.out] at hcell hrow hgb
          rw [f1] at hcell hrow hgb
          clear hb hb5 hown ht htn
          go_wp2_with fail
          refine (appendPattern_any g 95 95 w.heap.size M2 (eanEl c) _ _ true _ hown5 rfl hrow hgb (by rw [f2]; omega) (by omega)).mono ?_
          rintro e w6 ⟨rfl, hown6, hg6⟩
          have hg6s : g < w6.heap.size := by have := hg6.size; omega
          have hb6 : Below w.heap.size w w6 := hb5w.grown hg6 hb5w.size (fun k hk => by injection hk; omega)
          rw [← hnx.out] at hown6
          clear hb5w hg6 hown5 hrow hgb hcell
          go_wp2
          go_roundw
          case rel => exact ⟨k + 1, by omega, by go_num, by rw [HNL.out]; have := HEL8.out; go_num, hown6, hb6, hg6s⟩
          case measure => simp [intOf]; omega
        · have hk6 : k = 6 := by omega
          subst hk6
          have hfin : Hid (eanR left sets right 6 ++ barsFrom true [1, 1, 1] = row13 s) := Lib.hid (by rw [← HFIN.out, eanRow, HRL.out])
          have hroom : (eanR left sets right 6).length + 3 = 95 := by omega
          have hlen : Hid ((row13 s).length = 95) := Lib.hid (by rw [← hfin.out, List.length_append]; show _ + 3 = 95; omega)
          clear hel
          generalize eanR left sets right 6 = M2 at *
          go_wp2_with fail
          refine (startEnd_any _).mono ?_
          rintro e w5 ⟨⟨v5, rfl, hs5, ho5⟩, hb5⟩
          have hb5w := Below.two hb hb5 hb.size
          have hown5 := own_below hown hb5
          have hgv : v5.ownBlock ≠ some g := by rw [ho5]; intro e; injection e; omega
          clear hb hb5 hown ho5
          go_wp2_with fail
          refine (appendPattern_any g 95 95 w.heap.size M2 [1, 1, 1] _ _ true _ hown5 rfl hs5 hgv (by show _ + 3 ≤ 95; omega) (by omega)).mono ?_
          rintro e w6 ⟨rfl, hown6, hg6⟩
          have hb6 : Below w.heap.size w w6 := hb5w.grown hg6 hb5w.size (fun k hk => by injection hk; omega)
          rw [hfin.out, fillB_full _ _ hlen.out] at hown6
          clear hb5w hg6 hown5 hs5 hgv
          go_wp2
          go_ret2
          exact ⟨⟨_, rfl, hown6⟩, hb6⟩

set_option maxHeartbeats 1500000 in
set_option maxRecDepth 100000 in
theorem enc13_thirteen (r : ByteArray) (w : World) (hr13 : r.size = 13) (hok : okEan r 12) (x : Value) :
    Calls Tryd.prog 28 #[.agg #[], .string r, x] w fun e w' =>
      (∃ v, e = .returned (.tuple #[v, .nilIface]) ∧ w'.ownsRow w.heap.size 4 1 v 95 ((row13 r).map .bool)) ∧ Below w.heap.size w w' := by
  obtain ⟨j0, hj, hy0, hy1, hy2⟩ := info_parts info_bool
  have HRD := Lib.hid hok.1
  have hlast : nthU (bl r) 12 = chkB ((bl r).take 12) := by
    rcases hok.2 with h | h
    · omega
    · exact h.2
  have hX : bl (r.extract 0 12) = (bl r).take 12 := by rw [bl_extract]; rfl
  have HXD : Hid (allDig (r.extract 0 12)) := Lib.hid (fun i hi => by
    have hxl : (r.extract 0 12).size = 12 := by rw [ByteArray.size_extract]; omega
    rw [hX, nthU_takeD _ _ _ (by omega)]; exact hok.1 i (by omega))
  have HDEC : Hid (decide (nthU (bl r) 12 = chkB (bl (r.extract 0 12))) = true) := Lib.hid (decide_eq_true (by rw [hX, hlast]))
  have HWC : Hid (bl r = withChk r 12) := Lib.hid (by
    have h8 : (bl r).length = 13 := by rw [bl_length]; exact hr13
    have h1 := List.take_succ_eq_append_getElem (l := bl r) (i := 12) (by omega)
    rw [← nthU_eq (by omega), hlast, List.take_of_length_le (by omega)] at h1
    exact h1)
  clear hok hlast hX
  have hb00 : Below w.heap.size w (w.alloc (.cells #[] 45)) := below_alloc _ _
  go_enter Tryd.func28, Tryd.ntmps28
  go_wp2_with fail
  refine (checkChk_any r 12 hr13 (by omega) _).mono ?_
  rintro e wa ⟨hcase, hba⟩
  have hb0 := Below.two hb00 hba hb00.size
  clear hb00 hba
  rcases hcase with ⟨_, rfl⟩ | ⟨hno, _⟩
  case inr => exact absurd HXD.out hno
  rw [HDEC.out]
  clear HDEC HXD
  go_wp2_with fail
  have HLOW : Hid (∀ i, i < r.size → (nthU (bl r) i).toNat < 128) := Lib.hid (fun i hi => by have := HRD.out i hi; unfold isDig at this; omega)
  have hbl : (bl r).length = 13 := by rw [bl_length]; exact hr13
  have hx : (bl r).extract 1 7 = ((bl r).take 7).drop 1 := by rw [List.extract_eq_take_drop, List.drop_take]
  have hln : ∀ k, k < 6 → nthU ((bl r).extract 1 7) k = nthU (bl r) (1 + k) := fun k hk => by
    rw [hx]; simp only [nthU, List.getD, List.getElem?_drop, List.getElem?_take]; rw [if_pos (by omega)]
  have hrd8 : ∀ k, nthU ((bl r).drop 7) k = nthU (bl r) (7 + k) := fun k => by simp [nthU, List.getD, List.getElem?_drop]
  have HLD : Hid (∀ k, k < 6 → isDig (nthU ((bl r).extract 1 7) k)) := Lib.hid (fun k hk => by rw [hln k hk]; exact HRD.out (1 + k) (by omega))
  have HRR : Hid (∀ k, k < 6 → isDig (nthU ((bl r).drop 7) k)) := Lib.hid (fun k hk => by rw [hrd8]; exact HRD.out (7 + k) (by omega))
  have HBL : Hid (∀ ii k, k + 1 = ii → (h : k < 6) → (h2 : ii < r.size) → r[ii]'h2 = nthU ((bl r).extract 1 7) k) := Lib.hid (fun ii k hik hk h2 => by rw [hln k hk, bl_get r ii h2, ← hik, Nat.add_comm])
  have HBR : Hid (∀ k, (h : k < 6) → r[7 + k]'(by omega) = nthU ((bl r).drop 7) k) := Lib.hid (fun k hk => by rw [hrd8]; exact bl_get r (7 + k) (by omega))
  have HLL : Hid (((bl r).extract 1 7).length = 6) := Lib.hid (by rw [hx, List.length_drop, List.length_take, hbl]; rfl)
  have HRL : Hid (((bl r).drop 7).length = 6) := Lib.hid (by rw [List.length_drop, hbl])
  have HFIN : Hid (eanRow ((bl r).extract 1 7) (sets13 (nthU (bl r) 0)) ((bl r).drop 7) = row13 r) := Lib.hid (by rw [row13, ← HWC.out])
  have hg0 := bl_get r 0 (by omega)
  have HD0 := Lib.hid (HRD.out 0 (by omega))
  generalize (bl r).extract 1 7 = left at *
  generalize (bl r).drop 7 = right at *
  generalize nthU (bl r) 0 = c0 at *
  obtain ⟨d0, hd0⟩ : ∃ d, c0.toNat = 48 + d := ⟨c0.toNat - 48, by have := HD0.out; unfold isDig at this; omega⟩
  have hd010 : d0 < 10 := by have := HD0.out; unfold isDig at this; omega
  have HPAR : Hid (∀ k, k < 6 → ((nth enc13T d0 >>> (5 - k)) % 2 = 1 ↔ nthU (sets13 c0) k = 66)) := Lib.hid (fun k hk => by
    rw [sets13, show c0.toNat - 48 = d0 by omega]; exact par13 d0 hd010 k hk)
  have HSE67 : Hid (∀ k, k < 6 → nthU (sets13 c0) k ≠ 67) := Lib.hid (fun k hk => by
    rw [sets13, show c0.toNat - 48 = d0 by omega]; exact no67 d0 hd010 k hk)
  generalize sets13 c0 = sets at *
  clear hrd8 hbl hx hln
  refine (checkNumeric_any r _ HLOW.out (by omega)).mono ?_
  rintro e w1 ⟨hcase, hb1⟩
  have hb1w := Below.two hb0 hb1 hb0.size
  clear hb0 hb1
  rcases hcase with ⟨_, rfl⟩ | ⟨hno, _⟩
  case inr => exact absurd HRD.out hno
  go_wp2_with fail
  refine (first13_any _).mono ?_
  rintro e wt ⟨⟨fa, fc, rfl, hft⟩, hbt⟩
  have hbtw := Below.two hb1w hbt hb1w.size
  clear hb1w hbt hg0
  have hb1w := hbtw
  clear hbtw
  obtain ⟨fb, fo, rfl, hfc⟩ := hft.getI d0 (by show d0 < 10; exact hd010)
  have hpar := nth_le (show ∀ x ∈ enc13T, x ≤ 1000 by decide) d0
  generalize nth enc13T d0 = par at *
  clear hft
  have hsz1 := hb1w.size
  go_wp2_with (at_make; refine wpList_make_full _ rfl _ _ 24 rfl w.heap.size 4 j0 (.bool false) 1 Tryd.underlying24 hj hy0 hy1 _ _ _ _ 95 rfl rfl rfl rfl (by rw [hy2]; omega) (by unfold maxLen; omega) hsz1 ?_)
  intro w2 hown hgrow
  have hb2 : Below w.heap.size w w2 := hb1w.grown hgrow hsz1 (fun k hk => by cases hk)
  obtain ⟨hg1, hg2⟩ := hown.lt _ rfl
  rw [made_bools] at hown
  clear hgrow hb1w
  generalize wt.heap.size = g at *
  go_wp2_with fail
  refine (startEnd_any _).mono ?_
  rintro e w3 ⟨⟨v3, rfl, hs3, ho3⟩, hb3⟩
  have hb3w := Below.two hb2 hb3 hb2.size
  have hb3z : g < w3.heap.size := by have := hb3.size; omega
  have hown3 := own_below hown hb3
  have hgv : v3.ownBlock ≠ some g := by rw [ho3]; intro e; injection e; omega
  clear hb2 hb3 hown ho3 hg2
  go_wp2_with fail
  refine (appendPattern_any g 95 95 w.heap.size [] [1, 1, 1] _ _ true _ hown3 rfl hs3 hgv (by decide) (by omega)).mono ?_
  rintro e w4 ⟨rfl, hown4, hg4⟩
  have hb4 : Below w.heap.size w w4 := hb3w.grown hg4 hb3w.size (fun k hk => by injection hk; omega)
  rw [show [] ++ barsFrom true [1, 1, 1] = eanL left sets 0 by simp [eanL, leftM]] at hown4
  have hp0 : Hid ((0 : Int) + (([1, 1, 1] : List Nat).sum : Int) = ((eanL left sets 0).length : Int)) := Lib.hid (by simp [eanL, leftM, barsFrom])
  have hg4s : g < w4.heap.size := by have := hg4.size; have := hb3z; omega
  clear hb3w hg4 hown3 hs3 hgv
  go_wp2
  go_loopw [17, 18, 19] (fun p i _ wr => ∃ ii k : Nat, k + 1 = ii ∧ k ≤ 6 ∧ i = .int .i64 ii ∧ p = .int .i64 ((eanL left sets k).length : Int) ∧ wr.ownsRow w.heap.size 4 1 (.slice (some ⟨g, 0, none⟩) 95 95) 95 (fillB 95 (eanL left sets k)) ∧ Below w.heap.size w wr ∧ g < wr.heap.size) (fun _ i _ _ => 7 - (intOf i).toNat)
  case atStart => exact ⟨1, 0, rfl, Nat.zero_le _, rfl, by first | rfl | (rw [← hp0.out]; rfl), hown4, hb4, hg4s⟩
  case round =>
    clear hown4 hb4
    obtain ⟨ii, k, hik, hk, rfl, rfl, hown, hb, hgs⟩ := hrel
    have hel := eanL_length left sets k (fun i hi => HLD.out i (by omega))
    by_cases hlt : k < 6
    · have hii : ii ≤ 6 := by omega
      have hir : ii < r.size := by omega
      have hbyte := HBL.out ii k hik hlt hir
      obtain ⟨hd1, hd2⟩ := HLD.out k hlt
      obtain ⟨f1, f2, f3⟩ := eanEl_facts (HLD.out k hlt)
      have hnx : Hid (eanL left sets (k + 1) = eanL left sets k ++ dmods (nthU sets k) (nthU left k)) := Lib.hid (eanL_succ _ _ _)
      have hnl : (eanL left sets (k + 1)).length = 3 + 7 * (k + 1) := eanL_length left sets (k + 1) (fun i hi => HLD.out i (by omega))
      have hpk := HPAR.out k hlt
      have hs67 := HSE67.out k hlt
      obtain ⟨q, hq⟩ : ∃ q, q + ii = 6 := ⟨6 - ii, by omega⟩
      rw [show 5 - k = q by omega] at hpk
      have hqi : (6 : Int) - (ii : Int) = (q : Int) := by omega
      have hq5 : q ≤ 6 := by omega
      generalize hcc : nthU left k = c at *
      generalize nthU sets k = se at *
      have HNL := Lib.hid hnl
      clear hnl hcc hq
      obtain ⟨d, hd⟩ : ∃ d, c.toNat = 48 + d := ⟨c.toNat - 48, by omega⟩
      have hd10 : d < 10 := by omega
      have hELd : nthL eanW d = eanEl c := by rw [eanEl, show c.toNat - 48 = d by omega]
      have hroom : (eanL left sets k).length + 7 ≤ 95 := by omega
      have HEL7 := Lib.hid hel
      have HIK := Lib.hid hik
      clear hel hik
      generalize eanL left sets k = M at *
      by_cases hse : se = 66
      · have hbz := bit_yes par q (by omega) (hpk.2 hse)
        have hEL : Hid (nthL lgW (d + 10) = (eanEl c).reverse) := Lib.hid (by rw [Nat.add_comm, lgW_high d hd10, hELd])
        have hdm : Hid (dmods se c = barsFrom false (eanEl c).reverse) := Lib.hid (by rw [dmods, if_pos hse])
        have g1 : (eanEl c).reverse.length = 4 := by rw [List.length_reverse, f1]
        have g2 : (eanEl c).reverse.sum = 7 := by rw [sum_rev, f2]
        clear hpk hse hELd
        go_wp2_with fail
        refine (lgPatterns_any _).mono ?_
        rintro e w5 ⟨⟨ta, tc, rfl, ht⟩, hb5⟩
        have hb5w := Below.two hb hb5 hb.size
        have hb5z : g < w5.heap.size := by have := hb5.size; omega
        have hown5 := own_below hown hb5
        obtain ⟨tb, to, ra, rc, rfl, hcell, hrow, hnew⟩ := ht.get (d + 10) (by show d + 10 < 20; omega)
        have hgb : (Value.slice ra (nthL lgW (d + 10)).length rc).ownBlock ≠ some g := fun e => by have := hnew g e; omega
        clear hnew
        rw [hEL.out] at hcell hrow hgb
        rw [g1] at hcell hrow hgb
        clear hb hb5 hown ht
        go_wp2_with fail
        refine (appendPattern_any g 95 95 w.heap.size M ((eanEl c).reverse) _ _ false _ hown5 rfl hrow hgb (by rw [g2]; omega) (by omega)).mono ?_
        rintro e w6 ⟨rfl, hown6, hg6⟩
        have hg6s : g < w6.heap.size := by have := hg6.size; have := hb5z; omega
        have hb6 : Below w.heap.size w w6 := hb5w.grown hg6 hb5w.size (fun k hk => by injection hk; omega)
        rw [← hdm.out, ← hnx.out] at hown6
        clear hb5w hg6 hown5 hrow hgb hcell hbz
        go_wp2
        go_roundw
        case rel => exact ⟨ii + 1, k + 1, by have := HIK.out; omega, by omega, by go_num, by rw [HNL.out]; have := HEL7.out; go_num, hown6, hb6, hg6s⟩
        case measure => simp [intOf]; omega
      · have hbz := bit_no par q (by omega) (fun h => hse (hpk.1 h))
        have hse67 : se ≠ 67 := hs67
        have hEL : Hid (nthL lgW d = eanEl c) := Lib.hid (by rw [lgW_low d hd10, hELd])
        have hdm : Hid (dmods se c = barsFrom false (eanEl c)) := Lib.hid (by rw [dmods, if_neg hse, if_neg hse67])
        have g1 := f1
        have g2 := f2
        clear hpk hse hELd
        go_wp2_with fail
        refine (lgPatterns_any _).mono ?_
        rintro e w5 ⟨⟨ta, tc, rfl, ht⟩, hb5⟩
        have hb5w := Below.two hb hb5 hb.size
        have hb5z : g < w5.heap.size := by have := hb5.size; omega
        have hown5 := own_below hown hb5
        obtain ⟨tb, to, ra, rc, rfl, hcell, hrow, hnew⟩ := ht.get (d) (by show d < 20; omega)
        have hgb : (Value.slice ra (nthL lgW (d)).length rc).ownBlock ≠ some g := fun e => by have := hnew g e; omega
        clear hnew
        rw [hEL.out] at hcell hrow hgb
        rw [g1] at hcell hrow hgb
        clear hb hb5 hown ht
        go_wp2_with fail
        refine (appendPattern_any g 95 95 w.heap.size M (eanEl c) _ _ false _ hown5 rfl hrow hgb (by rw [g2]; omega) (by omega)).mono ?_
        rintro e w6 ⟨rfl, hown6, hg6⟩
        have hg6s : g < w6.heap.size := by have := hg6.size; have := hb5z; omega
        have hb6 : Below w.heap.size w w6 := hb5w.grown hg6 hb5w.size (fun k hk => by injection hk; omega)
        rw [← hdm.out, ← hnx.out] at hown6
        clear hb5w hg6 hown5 hrow hgb hcell hbz
        go_wp2
        go_roundw
        case rel => exact ⟨ii + 1, k + 1, by have := HIK.out; omega, by omega, by go_num, by rw [HNL.out]; have := HEL7.out; go_num, hown6, hb6, hg6s⟩
        case measure => simp [intOf]; omega
    · have hk6 : k = 6 := by omega
      subst hk6
      have hM5 : Hid (eanR left sets right 0 = eanL left sets 6 ++ barsFrom false [1, 1, 1, 1, 1]) := Lib.hid (by
        rw [eanR, HLL.out]; simp [rightM])
      have hr0 : Hid ((eanR left sets right 0).length = 50) := Lib.hid (by rw [hM5.out, List.length_append, hel]; rfl)
      have hroom : (eanL left sets 6).length + 5 ≤ 95 := by omega
      have HEL7 := Lib.hid hel
      clear hel
      generalize eanL left sets 6 = M at *
      go_wp2_with fail
      refine (middle_any _).mono ?_
      rintro e w5 ⟨⟨v5, rfl, hs5, ho5⟩, hb5⟩
      have hb5w := Below.two hb hb5 hb.size
      have hb5z : g < w5.heap.size := by have := hb5.size; omega
      have hown5 := own_below hown hb5
      have hgv : v5.ownBlock ≠ some g := by rw [ho5]; intro e; injection e; omega
      clear hb hb5 hown ho5
      go_wp2_with fail
      refine (appendPattern_any g 95 95 w.heap.size M [1, 1, 1, 1, 1] _ _ false _ hown5 rfl hs5 hgv (by show _ + 5 ≤ 95; omega) (by omega)).mono ?_
      rintro e w6 ⟨rfl, hown6, hg6⟩
      have hg6s : g < w6.heap.size := by have := hg6.size; omega
      have hb6 : Below w.heap.size w w6 := hb5w.grown hg6 hb5w.size (fun k hk => by injection hk; omega)
      rw [← hM5.out] at hown6
      have hp6 : Hid ((M.length : Int) + 5 = ((eanR left sets right 0).length : Int)) := Lib.hid (by have h1 := hr0.out; have h2 := HEL7.out; omega)
      clear hb5w hg6 hown5 hs5 hgv
      go_wp2
      go_loopw [17, 20, 21] (fun p i _ wr => ∃ k : Nat, k ≤ 6 ∧ i = .int .i64 ((7 : Int) + k) ∧ p = .int .i64 ((eanR left sets right k).length : Int) ∧ wr.ownsRow w.heap.size 4 1 (.slice (some ⟨g, 0, none⟩) 95 95) 95 (fillB 95 (eanR left sets right k)) ∧ Below w.heap.size w wr ∧ g < wr.heap.size) (fun _ i _ _ => 13 - (intOf i).toNat)
      case atStart => exact ⟨0, Nat.zero_le _, by simp, by rw [← hp6.out], hown6, hb6, hg6s⟩
      case round =>
        clear hown6 hb6 hg6s
        obtain ⟨k, hk, rfl, rfl, hown, hb, hgs⟩ := hrel
        have hel := eanR_length left sets right k (fun i hi => HLD.out i (by have := HLL.out; omega)) (fun i hi => HRR.out i (by omega))
        rw [HLL.out] at hel
        by_cases hlt : k < 6
        · have hbyte := HBR.out k hlt
          have htn : ((7 : Int) + (k : Int)).toNat = 7 + k := by omega
          obtain ⟨hd1, hd2⟩ := HRR.out k hlt
          obtain ⟨f1, f2, f3⟩ := eanEl_facts (HRR.out k hlt)
          have hnx : Hid (eanR left sets right (k + 1) = eanR left sets right k ++ barsFrom true (eanEl (nthU right k))) := Lib.hid (by
            rw [eanR_succ, dmods, if_neg (by decide), if_pos rfl])
          have hnl := eanR_length left sets right (k + 1) (fun i hi => HLD.out i (by have := HLL.out; omega)) (fun i hi => HRR.out i (by omega))
          rw [HLL.out] at hnl
          generalize hcc : nthU right k = c at *
          have HNL := Lib.hid hnl
          clear hnl hcc
          obtain ⟨d, hd⟩ : ∃ d, c.toNat = 48 + d := ⟨c.toNat - 48, by omega⟩
          have hd10 : d < 10 := by omega
          have hEL : Hid (nthL eanW d = eanEl c) := Lib.hid (by rw [eanEl, show c.toNat - 48 = d by omega])
          have hroom : (eanR left sets right k).length + 7 ≤ 95 := by omega
          have HEL8 := Lib.hid hel
          clear hel
          generalize eanR left sets right k = M2 at *
          go_wp2_with fail
          refine (lPatterns_any _).mono ?_
          rintro e w5 ⟨⟨ta, tc, rfl, ht⟩, hb5⟩
          have hb5w := Below.two hb hb5 hb.size
          have hb5z : g < w5.heap.size := by have := hb5.size; omega
          have hown5 := own_below hown hb5
          obtain ⟨tb, to, ra, rc, rfl, hcell, hrow, hnew⟩ := ht.get d (by show d < 10; exact hd10)
          have hgb : (Value.slice ra (nthL eanW d).length rc).ownBlock ≠ some g := fun e => by have := hnew g e; omega
          clear hnew
          rw [hEL.out] at hcell hrow hgb
          rw [f1] at hcell hrow hgb
          clear hb hb5 hown ht htn
          go_wp2_with fail
          refine (appendPattern_any g 95 95 w.heap.size M2 (eanEl c) _ _ true _ hown5 rfl hrow hgb (by rw [f2]; omega) (by omega)).mono ?_
          rintro e w6 ⟨rfl, hown6, hg6⟩
          have hg6s : g < w6.heap.size := by have := hg6.size; omega
          have hb6 : Below w.heap.size w w6 := hb5w.grown hg6 hb5w.size (fun k hk => by injection hk; omega)
          rw [← hnx.out] at hown6
          clear hb5w hg6 hown5 hrow hgb hcell
          go_wp2
          go_roundw
          case rel => exact ⟨k + 1, by omega, by go_num, by rw [HNL.out]; have := HEL8.out; go_num, hown6, hb6, hg6s⟩
          case measure => simp [intOf]; omega
        · have hk6 : k = 6 := by omega
          subst hk6
          have hfin : Hid (eanR left sets right 6 ++ barsFrom true [1, 1, 1] = row13 r) := Lib.hid (by rw [← HFIN.out, eanRow, HRL.out])
          have hroom : (eanR left sets right 6).length + 3 = 95 := by omega
          have hlen : Hid ((row13 r).length = 95) := Lib.hid (by rw [← hfin.out, List.length_append]; show _ + 3 = 95; omega)
          clear hel
          generalize eanR left sets right 6 = M2 at *
          go_wp2_with fail
          refine (startEnd_any _).mono ?_
          rintro e w5 ⟨⟨v5, rfl, hs5, ho5⟩, hb5⟩
          have hb5w := Below.two hb hb5 hb.size
          have hown5 := own_below hown hb5
          have hgv : v5.ownBlock ≠ some g := by rw [ho5]; intro e; injection e; omega
          clear hb hb5 hown ho5
          go_wp2_with fail
          refine (appendPattern_any g 95 95 w.heap.size M2 [1, 1, 1] _ _ true _ hown5 rfl hs5 hgv (by show _ + 3 ≤ 95; omega) (by omega)).mono ?_
          rintro e w6 ⟨rfl, hown6, hg6⟩
          have hb6 : Below w.heap.size w w6 := hb5w.grown hg6 hb5w.size (fun k hk => by injection hk; omega)
          rw [hfin.out, fillB_full _ _ hlen.out] at hown6
          clear hb5w hg6 hown5 hs5 hgv
          go_wp2
          go_ret2
          exact ⟨⟨_, rfl, hown6⟩, hb6⟩

theorem bad_last13 {s : ByteArray} (hs : s.size = 13) (hno : ¬ okEan s 12) (hd : allDig (s.extract 0 12)) : ¬ nthU (bl s) 12 = chkB (bl (s.extract 0 12)) := by
  intro h
  have hX : bl (s.extract 0 12) = (bl s).take 12 := by rw [bl_extract]; rfl
  have hxl : (s.extract 0 12).size = 12 := by rw [ByteArray.size_extract]; omega
  refine hno ⟨fun i hi => ?_, .inr ⟨hs, by rw [h, hX]⟩⟩
  by_cases h7 : i = 12
  · rw [h7, h]; exact chkB_dig _
  · have := hd i (by omega)
    rw [hX, nthU_takeD _ _ _ (by omega)] at this
    exact this

set_option maxHeartbeats 1500000 in
set_option maxRecDepth 100000 in
theorem enc13_bad (s : ByteArray) (w : World) (hs : s.size ≤ 2147483647) (hno : ¬ okEan s 12) (x : Value) :
    Calls Tryd.prog 28 #[.agg #[], .string s, x] w fun e w' =>
      (∃ u y, e = .returned (.tuple #[.slice none 0 0, .iface u y])) ∧ Below w.heap.size w w' := by
  have hb00 : Below w.heap.size w (w.alloc (.cells #[] 45)) := below_alloc _ _
  by_cases h7 : s.size = 12
  · have HND : Hid (¬ allDig s) := Lib.hid (fun h => hno ⟨h, .inl h7⟩)
    clear hno
    go_enter Tryd.func28, Tryd.ntmps28
    go_wp2_with fail
    refine (getChk_any s (by omega) _).mono ?_
    rintro e wa ⟨hcase, hba⟩
    have hb0 := Below.two hb00 hba hb00.size
    clear hb00 hba
    rcases hcase with ⟨hd, _⟩ | ⟨_, rfl⟩
    case inl => exact absurd hd HND.out
    go_wp2_with fail
    rw [exc_take]
    refine (excError_any _ _).mono ?_
    rintro e wc ⟨rfl, hbc⟩
    have hb1 := Below.two hb0 hbc hb0.size
    clear hb0 hbc
    go_wp2_with (go_at_call 31; refine (NewWriterException_any _ _).mono ?_; rintro e w2 ⟨⟨u, x, rfl⟩, hb2⟩)
    go_ret2
    exact ⟨⟨_, _, rfl⟩, Below.two (by first | exact hb1 | exact hb1.alloc hb1.size _ | exact (hb1.alloc hb1.size _).alloc (hb1.alloc hb1.size _).size _ | go_grown) hb2 (by have := hb1.size; simp <;> omega)⟩
  · by_cases h8 : s.size = 13
    · have HBAD := Lib.hid (bad_last13 h8 hno)
      clear hno
      go_enter Tryd.func28, Tryd.ntmps28
      go_wp2_with fail
      refine (checkChk_any s 12 h8 (by omega) _).mono ?_
      rintro e wa ⟨hcase, hba⟩
      have hb0 := Below.two hb00 hba hb00.size
      clear hb00 hba
      rcases hcase with ⟨hd, rfl⟩ | ⟨_, rfl⟩
      · rw [decide_eq_false (HBAD.out hd)]
        clear hd
        have hb1 := hb0
        clear hb0
        go_wp2_with (go_at_call 31; refine (NewWriterException_any _ _).mono ?_; rintro e w2 ⟨⟨u, x, rfl⟩, hb2⟩)
        go_ret2
        exact ⟨⟨_, _, rfl⟩, Below.two (by first | exact hb1 | exact hb1.alloc hb1.size _ | exact (hb1.alloc hb1.size _).alloc (hb1.alloc hb1.size _).size _ | go_grown) hb2 (by have := hb1.size; simp <;> omega)⟩
      · go_wp2_with fail
        rw [exc_take]
        refine (excError_any _ _).mono ?_
        rintro e wc ⟨rfl, hbc⟩
        have hb1 := Below.two hb0 hbc hb0.size
        clear hb0 hbc
        go_wp2_with (go_at_call 31; refine (NewWriterException_any _ _).mono ?_; rintro e w2 ⟨⟨u, x, rfl⟩, hb2⟩)
        go_ret2
        exact ⟨⟨_, _, rfl⟩, Below.two (by first | exact hb1 | exact hb1.alloc hb1.size _ | exact (hb1.alloc hb1.size _).alloc (hb1.alloc hb1.size _).size _ | go_grown) hb2 (by have := hb1.size; simp <;> omega)⟩
    · clear hno
      have hn7 : ((s.size : Int) == 12) = false := by rw [beq_eq_false_iff_ne]; omega
      have hn8 : ((s.size : Int) == 13) = false := by rw [beq_eq_false_iff_ne]; omega
      have hb1 := hb00
      clear hb00
      go_enter Tryd.func28, Tryd.ntmps28
      go_wp2_with (go_at_call 31; refine (NewWriterException_any _ _).mono ?_; rintro e w2 ⟨⟨u, x, rfl⟩, hb2⟩)
      go_ret2
      exact ⟨⟨_, _, rfl⟩, Below.two (by first | exact hb1 | exact hb1.alloc hb1.size _ | exact (hb1.alloc hb1.size _).alloc (hb1.alloc hb1.size _).size _ | go_grown) hb2 (by have := hb1.size; simp <;> omega)⟩
end Go.Proofs.YtpgddedhhjbgoaaDoor
