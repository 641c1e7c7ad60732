/- Walks: the encoder of EAN-8. (Printed by gen8E.py.) -/
import Derived.Test.YtpgddedhhjbgoaaDoorEanT
import Derived.Test.YtpgddedhhjbgoaaDoorApp
import Derived.Test.YtpgddedhhjbgoaaDoorNum
namespace Go.Proofs.YtpgddedhhjbgoaaDoor
open Go.RowKit

/-- What is written for a text of EAN-8. -/
def row8 (s : ByteArray) : List Bool := eanRow ((withChk s 7).take 4) [65, 65, 65, 65] ((withChk s 7).drop 4)

theorem itoa_b (n : Nat) (h : n < 10) (B : UInt8) (hB : UInt8.ofNat (48 + n) = B) (w : World) :
    Calls Tryd.prog 32 #[.int .i64 n] w fun e w' => e = .returned (.string ⟨#[B]⟩) ∧ w' = w := by
  subst hB; exact itoa_digit n h w

set_option maxHeartbeats 4000000 in
set_option maxRecDepth 100000 in
theorem enc8_seven (s : ByteArray) (w : World) (hs : s.size = 7) (hd : allDig s) (x : Value) :
    Calls Tryd.prog 27 #[.agg #[], .string s, x] w fun e w' =>
      (∃ v, e = .returned (.tuple #[v, .nilIface]) ∧ w'.ownsRow w.heap.size 4 1 v 67 ((row8 s).map .bool)) ∧ Below w.heap.size w w' := by
  obtain ⟨j0, hj, hy0, hy1, hy2⟩ := info_parts info_bool
  have hck := eanChk_lt (bl s)
  have htk : (bl s).take 7 = bl s := List.take_of_length_le (by rw [bl_length]; omega)
  have hr8 : (s ++ ⟨#[chkB (bl s)]⟩ : ByteArray).size = 8 := by rw [ByteArray.size_append', hs]; rfl
  have hblr : bl (s ++ ⟨#[chkB (bl s)]⟩) = bl s ++ [chkB (bl s)] := by rw [bl_append]; rfl
  have HWC : Hid (bl (s ++ ⟨#[chkB (bl s)]⟩) = withChk s 7) := Lib.hid (by rw [hblr, withChk, htk])
  have HRD : Hid (allDig (s ++ ⟨#[chkB (bl s)]⟩)) := Lib.hid (fun i hi => by
    rw [hblr]
    by_cases h : i < s.size
    · have e : nthU (bl s ++ [chkB (bl s)]) i = nthU (bl s) i := by
        simp only [nthU, List.getD]; rw [List.getElem?_append_left (by rw [bl_length]; exact h)]
      rw [e]; exact hd i h
    · have e : nthU (bl s ++ [chkB (bl s)]) i = chkB (bl s) := by
        have : i = (bl s).length := by rw [bl_length]; omega
        rw [this]; simp [nthU, List.getD]
      rw [e]; exact chkB_dig _)
  have HD := Lib.hid hd
  clear hd htk hblr
  have hb00 : Below w.heap.size w (w.alloc (.cells #[] 42)) := below_alloc _ _
  go_enter Tryd.func27, Tryd.ntmps27
  go_wp2_with fail
  refine (getChk_any s (by omega) _).mono ?_
  rintro e wa ⟨hcase, hba⟩
  have hb0 := Below.two hb00 hba hb00.size
  clear hb00 hba
  rcases hcase with ⟨_, rfl⟩ | ⟨hno, _⟩
  case inr => exact absurd HD.out hno
  have hBk : UInt8.ofNat (48 + eanChk (bl s)) = chkB (bl s) := rfl
  generalize eanChk (bl s) = ck at *
  generalize chkB (bl s) = B at *
  have HBK := Lib.hid hBk
  clear hBk
  go_wp2_with fail
  refine (itoa_b ck hck B HBK.out _).mono ?_
  rintro e wb ⟨rfl, rfl⟩
  have hs1 : (⟨#[B]⟩ : ByteArray).size = 1 := rfl
  go_wp2_with fail
  generalize s ++ ⟨#[B]⟩ = r at *
  -- here: r a string, hr8 : r.size = 8, HRD : Hid (allDig r), HWC : Hid (bl r = withChk s 7), hb0 : Below w.heap.size w (world)
  have HLOW : Hid (∀ i, i < r.size → (nthU (bl r) i).toNat < 128) := Lib.hid (fun i hi => by have := HRD.out i hi; unfold isDig at this; omega)
  have hbl : (bl r).length = 8 := by rw [bl_length]; exact hr8
  have HLD : Hid (∀ k, k < 4 → isDig (nthU ((bl r).take 4) k)) := Lib.hid (fun k hk => by rw [nthU_takeD _ _ _ hk]; exact HRD.out k (by omega))
  have hrd8 : ∀ k, nthU ((bl r).drop 4) k = nthU (bl r) (4 + k) := fun k => by simp [nthU, List.getD, List.getElem?_drop]
  have HRR : Hid (∀ k, k < 4 → isDig (nthU ((bl r).drop 4) k)) := Lib.hid (fun k hk => by rw [hrd8]; exact HRD.out (4 + k) (by omega))
  have HBL : Hid (∀ k, (h : k < 4) → r[k]'(by omega) = nthU ((bl r).take 4) k) := Lib.hid (fun k hk => by rw [nthU_takeD _ _ _ hk]; exact bl_get r k (by omega))
  have HBR : Hid (∀ k, (h : k < 4) → r[4 + k]'(by omega) = nthU ((bl r).drop 4) k) := Lib.hid (fun k hk => by rw [hrd8]; exact bl_get r (4 + k) (by omega))
  have HLL : Hid (((bl r).take 4).length = 4) := Lib.hid (by rw [List.length_take, hbl]; rfl)
  have HRL : Hid (((bl r).drop 4).length = 4) := Lib.hid (by rw [List.length_drop, hbl])
  have HFIN : Hid (eanRow ((bl r).take 4) [65, 65, 65, 65] ((bl r).drop 4) = eanRow ((withChk s 7).take 4) [65, 65, 65, 65] ((withChk s 7).drop 4)) := Lib.hid (by rw [HWC.out])
  generalize (bl r).take 4 = left at *
  generalize (bl r).drop 4 = right at *
  clear hrd8 hbl
  refine (checkNumeric_any r _ HLOW.out (by omega)).mono ?_
  rintro e w1 ⟨hcase, hb1⟩
  have hb1w := Below.two hb0 hb1 hb0.size
  clear hb0 hb1
  rcases hcase with ⟨_, rfl⟩ | ⟨hno, _⟩
  case inr => exact absurd HRD.out hno
  have hsz1 := hb1w.size
  go_wp2_with (at_make; refine wpList_make_full _ rfl _ _ 24 rfl w.heap.size 4 j0 (.bool false) 1 Tryd.underlying24 hj hy0 hy1 _ _ _ _ 67 rfl rfl rfl rfl (by rw [hy2]; omega) (by unfold maxLen; omega) hsz1 ?_)
  intro w2 hown hgrow
  have hb2 : Below w.heap.size w w2 := hb1w.grown hgrow hsz1 (fun k hk => by cases hk)
  obtain ⟨hg1, hg2⟩ := hown.lt _ rfl
  rw [made_bools] at hown
  clear hgrow hb1w
  generalize w1.heap.size = g at *
  go_wp2_with fail
  refine (startEnd_any _).mono ?_
  rintro e w3 ⟨⟨v3, rfl, hs3, ho3⟩, hb3⟩
  have hb3w := Below.two hb2 hb3 hb2.size
  have hb3z : g < w3.heap.size := by have := hb3.size; omega
  have hown3 := own_below hown hb3
  have hgv : v3.ownBlock ≠ some g := by rw [ho3]; intro e; injection e; omega
  clear hb2 hb3 hown ho3 hg2
  go_wp2_with fail
  refine (appendPattern_any g 67 67 w.heap.size [] [1, 1, 1] _ _ true _ hown3 rfl hs3 hgv (by decide) (by omega)).mono ?_
  rintro e w4 ⟨rfl, hown4, hg4⟩
  have hb4 : Below w.heap.size w w4 := hb3w.grown hg4 hb3w.size (fun k hk => by injection hk; omega)
  rw [show [] ++ barsFrom true [1, 1, 1] = eanL left [65, 65, 65, 65] 0 by simp [eanL, leftM]] at hown4
  have hp0 : Hid ((0 : Int) + (([1, 1, 1] : List Nat).sum : Int) = ((eanL left [65, 65, 65, 65] 0).length : Int)) := Lib.hid (by simp [eanL, leftM, barsFrom])
  have hg4s : g < w4.heap.size := by have := hg4.size; have := hb3z; omega
  clear hb3w hg4 hown3 hs3 hgv
  go_wp2
  go_loopw [15, 16, 17] (fun p i _ wr => ∃ k : Nat, k ≤ 4 ∧ i = .int .i64 k ∧ p = .int .i64 ((eanL left [65, 65, 65, 65] k).length : Int) ∧ wr.ownsRow w.heap.size 4 1 (.slice (some ⟨g, 0, none⟩) 67 67) 67 (fillB 67 (eanL left [65, 65, 65, 65] k)) ∧ Below w.heap.size w wr ∧ g < wr.heap.size) (fun _ i _ _ => 4 - (intOf i).toNat)
  case atStart => exact ⟨0, Nat.zero_le _, rfl, by first | rfl | (rw [← hp0.out]; rfl), hown4, hb4, hg4s⟩
  case round =>
    clear hown4 hb4
    obtain ⟨k, hk, rfl, rfl, hown, hb, hgs⟩ := hrel
    have hel := eanL_length left [65, 65, 65, 65] k (fun i hi => HLD.out i (by omega))
    by_cases hlt : k < 4
    · have hbyte := HBL.out k hlt
      obtain ⟨hd1, hd2⟩ := HLD.out k hlt
      obtain ⟨f1, f2, f3⟩ := eanEl_facts (HLD.out k hlt)
      have hnx : Hid (eanL left [65, 65, 65, 65] (k + 1) = eanL left [65, 65, 65, 65] k ++ barsFrom false (eanEl (nthU left k))) := Lib.hid (by
        rw [eanL_succ]
        have : ∀ k, k < 4 → nthU [65, 65, 65, 65] k = 65 := by decide
        rw [this k hlt, dmods, if_neg (by decide), if_neg (by decide)])
      have hnl : (eanL left [65, 65, 65, 65] (k + 1)).length = 3 + 7 * (k + 1) := eanL_length left [65, 65, 65, 65] (k + 1) (fun i hi => HLD.out i (by omega))
      generalize hcc : nthU left k = c at *
      have HNL := Lib.hid hnl
      clear hnl hcc
      obtain ⟨d, hd⟩ : ∃ d, c.toNat = 48 + d := ⟨c.toNat - 48, by omega⟩
      have hd10 : d < 10 := by omega
      have hEL : Hid (nthL eanW d = eanEl c) := Lib.hid (by rw [eanEl, show c.toNat - 48 = d by omega])
      have hroom : (eanL left [65, 65, 65, 65] k).length + 7 ≤ 67 := by omega
      have HEL7 := Lib.hid hel
      clear hel
      generalize eanL left [65, 65, 65, 65] k = M at *
      go_wp2_with fail
      refine (lPatterns_any _).mono ?_
      rintro e w5 ⟨⟨ta, tc, rfl, ht⟩, hb5⟩
      have hb5w := Below.two hb hb5 hb.size
      have hb5z : g < w5.heap.size := by have := hb5.size; omega
      have hown5 := own_below hown hb5
      obtain ⟨tb, to, ra, rc, rfl, hcell, hrow, hnew⟩ := ht.get d (by show d < 10; exact hd10)
      have hgb : (Value.slice ra (nthL eanW d).length rc).ownBlock ≠ some g := fun e => by have := hnew g e; omega
      clear hnew
      rw [hEL.out] at hcell hrow hgb
      rw [f1] at hcell hrow hgb
      clear hb hb5 hown ht
      go_wp2_with fail
      refine (appendPattern_any g 67 67 w.heap.size M (eanEl c) _ _ false _ hown5 rfl hrow hgb (by rw [f2]; omega) (by omega)).mono ?_
      rintro e w6 ⟨rfl, hown6, hg6⟩
      have hg6s : g < w6.heap.size := by have := hg6.size; have := hb5z; omega
      have hb6 : Below w.heap.size w w6 := hb5w.grown hg6 hb5w.size (fun k hk => by injection hk; omega)
      rw [← hnx.out] at hown6
      clear hb5w hg6 hown5 hrow hgb hcell
      go_wp2
      go_roundw
      case rel => exact ⟨k + 1, by omega, by go_num, by rw [HNL.out]; have := HEL7.out; go_num, hown6, hb6, hg6s⟩
      case measure => simp [intOf]; omega
    · have hk4 : k = 4 := by omega
      subst hk4
      have hM5 : Hid (eanR left [65, 65, 65, 65] right 0 = eanL left [65, 65, 65, 65] 4 ++ barsFrom false [1, 1, 1, 1, 1]) := Lib.hid (by
        rw [eanR, HLL.out]; simp [rightM])
      have hr0 : Hid ((eanR left [65, 65, 65, 65] right 0).length = 36) := Lib.hid (by rw [hM5.out, List.length_append, hel]; rfl)
      have hroom : (eanL left [65, 65, 65, 65] 4).length + 5 ≤ 67 := by omega
      have HEL7 := Lib.hid hel
      clear hel
      generalize eanL left [65, 65, 65, 65] 4 = M at *
      go_wp2_with fail
      refine (middle_any _).mono ?_
      rintro e w5 ⟨⟨v5, rfl, hs5, ho5⟩, hb5⟩
      have hb5w := Below.two hb hb5 hb.size
      have hb5z : g < w5.heap.size := by have := hb5.size; omega
      have hown5 := own_below hown hb5
      have hgv : v5.ownBlock ≠ some g := by rw [ho5]; intro e; injection e; omega
      clear hb hb5 hown ho5
      go_wp2_with fail
      refine (appendPattern_any g 67 67 w.heap.size M [1, 1, 1, 1, 1] _ _ false _ hown5 rfl hs5 hgv (by show _ + 5 ≤ 67; omega) (by omega)).mono ?_
      rintro e w6 ⟨rfl, hown6, hg6⟩
      have hg6s : g < w6.heap.size := by have := hg6.size; omega
      have hb6 : Below w.heap.size w w6 := hb5w.grown hg6 hb5w.size (fun k hk => by injection hk; omega)
      rw [← hM5.out] at hown6
      have hp6 : Hid ((M.length : Int) + 5 = ((eanR left [65, 65, 65, 65] right 0).length : Int)) := Lib.hid (by have h1 := hr0.out; have h2 := HEL7.out; omega)
      clear hb5w hg6 hown5 hs5 hgv
      go_wp2
      go_loopw [15, 18, 19] (fun p i _ wr => ∃ k : Nat, k ≤ 4 ∧ i = .int .i64 ((4 : Int) + k) ∧ p = .int .i64 ((eanR left [65, 65, 65, 65] right k).length : Int) ∧ wr.ownsRow w.heap.size 4 1 (.slice (some ⟨g, 0, none⟩) 67 67) 67 (fillB 67 (eanR left [65, 65, 65, 65] right k)) ∧ Below w.heap.size w wr ∧ g < wr.heap.size) (fun _ i _ _ => 8 - (intOf i).toNat)
      case atStart => exact ⟨0, Nat.zero_le _, by simp, by rw [← hp6.out], hown6, hb6, hg6s⟩
      case round =>
        clear hown6 hb6 hg6s
        obtain ⟨k, hk, rfl, rfl, hown, hb, hgs⟩ := hrel
        have hel := eanR_length left [65, 65, 65, 65] right k (fun i hi => HLD.out i (by have := HLL.out; omega)) (fun i hi => HRR.out i (by omega))
        rw [HLL.out] at hel
        by_cases hlt : k < 4
        · have hbyte := HBR.out k hlt
          have htn : ((4 : Int) + (k : Int)).toNat = 4 + k := by omega
          obtain ⟨hd1, hd2⟩ := HRR.out k hlt
          obtain ⟨f1, f2, f3⟩ := eanEl_facts (HRR.out k hlt)
          have hnx : Hid (eanR left [65, 65, 65, 65] right (k + 1) = eanR left [65, 65, 65, 65] right k ++ barsFrom true (eanEl (nthU right k))) := Lib.hid (by
            rw [eanR_succ, dmods, if_neg (by decide), if_pos rfl])
          have hnl := eanR_length left [65, 65, 65, 65] right (k + 1) (fun i hi => HLD.out i (by have := HLL.out; omega)) (fun i hi => HRR.out i (by omega))
          rw [HLL.out] at hnl
          generalize hcc : nthU right k = c at *
          have HNL := Lib.hid hnl
          clear hnl hcc
          obtain ⟨d, hd⟩ : ∃ d, c.toNat = 48 + d := ⟨c.toNat - 48, by omega⟩
          have hd10 : d < 10 := by omega
          have hEL : Hid (nthL eanW d = eanEl c) := Lib.hid (by rw [eanEl, show c.toNat - 48 = d by omega])
          have hroom : (eanR left [65, 65, 65, 65] right k).length + 7 ≤ 67 := by omega
          have HEL8 := Lib.hid hel
          clear hel
          generalize eanR left [65, 65, 65, 65] right k = M2 at *
          go_wp2_with fail
          refine (lPatterns_any _).mono ?_
          rintro e w5 ⟨⟨ta, tc, rfl, ht⟩, hb5⟩
          have hb5w := Below.two hb hb5 hb.size
          have hb5z : g < w5.heap.size := by have := hb5.size; omega
          have hown5 := own_below hown hb5
          obtain ⟨tb, to, ra, rc, rfl, hcell, hrow, hnew⟩ := ht.get d (by show d < 10; exact hd10)
          have hgb : (Value.slice ra (nthL eanW d).length rc).ownBlock ≠ some g := fun e => by have := hnew g e; omega
          clear hnew
          rw [hEL.out] at hcell hrow hgb
          rw [f1] at hcell hrow hgb
          clear hb hb5 hown ht htn
          go_wp2_with fail
          refine (appendPattern_any g 67 67 w.heap.size M2 (eanEl c) _ _ true _ hown5 rfl hrow hgb (by rw [f2]; omega) (by omega)).mono ?_
          rintro e w6 ⟨rfl, hown6, hg6⟩
          have hg6s : g < w6.heap.size := by have := hg6.size; omega
          have hb6 : Below w.heap.size w w6 := hb5w.grown hg6 hb5w.size (fun k hk => by injection hk; omega)
          rw [← hnx.out] at hown6
          clear hb5w hg6 hown5 hrow hgb hcell
          go_wp2
          go_roundw
          case rel => exact ⟨k + 1, by omega, by go_num, by rw [HNL.out]; have := HEL8.out; go_num, hown6, hb6, hg6s⟩
          case measure => simp [intOf]; omega
        · have hk4 : k = 4 := by omega
          subst hk4
          have hfin : Hid (eanR left [65, 65, 65, 65] right 4 ++ barsFrom true [1, 1, 1] = row8 s) := Lib.hid (by rw [row8, ← HFIN.out, eanRow, HRL.out])
          have hroom : (eanR left [65, 65, 65, 65] right 4).length + 3 = 67 := by omega
          have hlen : Hid ((row8 s).length = 67) := Lib.hid (by rw [← hfin.out, List.length_append]; show _ + 3 = 67; omega)
          clear hel
          generalize eanR left [65, 65, 65, 65] right 4 = M2 at *
          go_wp2_with fail
          refine (startEnd_any _).mono ?_
          rintro e w5 ⟨⟨v5, rfl, hs5, ho5⟩, hb5⟩
          have hb5w := Below.two hb hb5 hb.size
          have hown5 := own_below hown hb5
          have hgv : v5.ownBlock ≠ some g := by rw [ho5]; intro e; injection e; omega
          clear hb hb5 hown ho5
          go_wp2_with fail
          refine (appendPattern_any g 67 67 w.heap.size M2 [1, 1, 1] _ _ true _ hown5 rfl hs5 hgv (by show _ + 3 ≤ 67; omega) (by omega)).mono ?_
          rintro e w6 ⟨rfl, hown6, hg6⟩
          have hb6 : Below w.heap.size w w6 := hb5w.grown hg6 hb5w.size (fun k hk => by injection hk; omega)
          rw [hfin.out, fillB_full _ _ hlen.out] at hown6
          clear hb5w hg6 hown5 hs5 hgv
          go_wp2
          go_ret2
          exact ⟨⟨_, rfl, hown6⟩, hb6⟩

set_option maxHeartbeats 4000000 in
set_option maxRecDepth 100000 in
theorem enc8_eight (r : ByteArray) (w : World) (hr8 : r.size = 8) (hok : okEan r 7) (x : Value) :
    Calls Tryd.prog 27 #[.agg #[], .string r, x] w fun e w' =>
      (∃ v, e = .returned (.tuple #[v, .nilIface]) ∧ w'.ownsRow w.heap.size 4 1 v 67 ((row8 r).map .bool)) ∧ Below w.heap.size w w' := by
  obtain ⟨j0, hj, hy0, hy1, hy2⟩ := info_parts info_bool
  have HRD := Lib.hid hok.1
  have hlast : nthU (bl r) 7 = chkB ((bl r).take 7) := by
    rcases hok.2 with h | h
    · omega
    · exact h.2
  have hX : bl (r.extract 0 7) = (bl r).take 7 := by rw [bl_extract]; rfl
  have HXD : Hid (allDig (r.extract 0 7)) := Lib.hid (fun i hi => by
    have hxl : (r.extract 0 7).size = 7 := by rw [ByteArray.size_extract]; omega
    rw [hX, nthU_takeD _ _ _ (by omega)]; exact hok.1 i (by omega))
  have HDEC : Hid (decide (nthU (bl r) 7 = chkB (bl (r.extract 0 7))) = true) := Lib.hid (decide_eq_true (by rw [hX, hlast]))
  have HWC : Hid (bl r = withChk r 7) := Lib.hid (by
    have h8 : (bl r).length = 8 := by rw [bl_length]; exact hr8
    have h1 := List.take_succ_eq_append_getElem (l := bl r) (i := 7) (by omega)
    rw [← nthU_eq (by omega), hlast, List.take_of_length_le (by omega)] at h1
    exact h1)
  clear hok hlast hX
  have hb00 : Below w.heap.size w (w.alloc (.cells #[] 42)) := below_alloc _ _
  go_enter Tryd.func27, Tryd.ntmps27
  go_wp2_with fail
  refine (checkChk_any r 7 hr8 (by omega) _).mono ?_
  rintro e wa ⟨hcase, hba⟩
  have hb0 := Below.two hb00 hba hb00.size
  clear hb00 hba
  rcases hcase with ⟨_, rfl⟩ | ⟨hno, _⟩
  case inr => exact absurd HXD.out hno
  rw [HDEC.out]
  clear HDEC HXD
  go_wp2_with fail
  -- here: r a string, hr8 : r.size = 8, HRD : Hid (allDig r), HWC : Hid (bl r = withChk r 7), hb0 : Below w.heap.size w (world)
  have HLOW : Hid (∀ i, i < r.size → (nthU (bl r) i).toNat < 128) := Lib.hid (fun i hi => by have := HRD.out i hi; unfold isDig at this; omega)
  have hbl : (bl r).length = 8 := by rw [bl_length]; exact hr8
  have HLD : Hid (∀ k, k < 4 → isDig (nthU ((bl r).take 4) k)) := Lib.hid (fun k hk => by rw [nthU_takeD _ _ _ hk]; exact HRD.out k (by omega))
  have hrd8 : ∀ k, nthU ((bl r).drop 4) k = nthU (bl r) (4 + k) := fun k => by simp [nthU, List.getD, List.getElem?_drop]
  have HRR : Hid (∀ k, k < 4 → isDig (nthU ((bl r).drop 4) k)) := Lib.hid (fun k hk => by rw [hrd8]; exact HRD.out (4 + k) (by omega))
  have HBL : Hid (∀ k, (h : k < 4) → r[k]'(by omega) = nthU ((bl r).take 4) k) := Lib.hid (fun k hk => by rw [nthU_takeD _ _ _ hk]; exact bl_get r k (by omega))
  have HBR : Hid (∀ k, (h : k < 4) → r[4 + k]'(by omega) = nthU ((bl r).drop 4) k) := Lib.hid (fun k hk => by rw [hrd8]; exact bl_get r (4 + k) (by omega))
  have HLL : Hid (((bl r).take 4).length = 4) := Lib.hid (by rw [List.length_take, hbl]; rfl)
  have HRL : Hid (((bl r).drop 4).length = 4) := Lib.hid (by rw [List.length_drop, hbl])
  have HFIN : Hid (eanRow ((bl r).take 4) [65, 65, 65, 65] ((bl r).drop 4) = eanRow ((withChk r 7).take 4) [65, 65, 65, 65] ((withChk r 7).drop 4)) := Lib.hid (by rw [HWC.out])
  generalize (bl r).take 4 = left at *
  generalize (bl r).drop 4 = right at *
  clear hrd8 hbl
  refine (checkNumeric_any r _ HLOW.out (by omega)).mono ?_
  rintro e w1 ⟨hcase, hb1⟩
  have hb1w := Below.two hb0 hb1 hb0.size
  clear hb0 hb1
  rcases hcase with ⟨_, rfl⟩ | ⟨hno, _⟩
  case inr => exact absurd HRD.out hno
  have hsz1 := hb1w.size
  go_wp2_with (at_make; refine wpList_make_full _ rfl _ _ 24 rfl w.heap.size 4 j0 (.bool false) 1 Tryd.underlying24 hj hy0 hy1 _ _ _ _ 67 rfl rfl rfl rfl (by rw [hy2]; omega) (by unfold maxLen; omega) hsz1 ?_)
  intro w2 hown hgrow
  have hb2 : Below w.heap.size w w2 := hb1w.grown hgrow hsz1 (fun k hk => by cases hk)
  obtain ⟨hg1, hg2⟩ := hown.lt _ rfl
  rw [made_bools] at hown
  clear hgrow hb1w
  generalize w1.heap.size = g at *
  go_wp2_with fail
  refine (startEnd_any _).mono ?_
  rintro e w3 ⟨⟨v3, rfl, hs3, ho3⟩, hb3⟩
  have hb3w := Below.two hb2 hb3 hb2.size
  have hb3z : g < w3.heap.size := by have := hb3.size; omega
  have hown3 := own_below hown hb3
  have hgv : v3.ownBlock ≠ some g := by rw [ho3]; intro e; injection e; omega
  clear hb2 hb3 hown ho3 hg2
  go_wp2_with fail
  refine (appendPattern_any g 67 67 w.heap.size [] [1, 1, 1] _ _ true _ hown3 rfl hs3 hgv (by decide) (by omega)).mono ?_
  rintro e w4 ⟨rfl, hown4, hg4⟩
  have hb4 : Below w.heap.size w w4 := hb3w.grown hg4 hb3w.size (fun k hk => by injection hk; omega)
  rw [show [] ++ barsFrom true [1, 1, 1] = eanL left [65, 65, 65, 65] 0 by simp [eanL, leftM]] at hown4
  have hp0 : Hid ((0 : Int) + (([1, 1, 1] : List Nat).sum : Int) = ((eanL left [65, 65, 65, 65] 0).length : Int)) := Lib.hid (by simp [eanL, leftM, barsFrom])
  have hg4s : g < w4.heap.size := by have := hg4.size; have := hb3z; omega
  clear hb3w hg4 hown3 hs3 hgv
  go_wp2
  go_loopw [15, 16, 17] (fun p i _ wr => ∃ k : Nat, k ≤ 4 ∧ i = .int .i64 k ∧ p = .int .i64 ((eanL left [65, 65, 65, 65] k).length : Int) ∧ wr.ownsRow w.heap.size 4 1 (.slice (some ⟨g, 0, none⟩) 67 67) 67 (fillB 67 (eanL left [65, 65, 65, 65] k)) ∧ Below w.heap.size w wr ∧ g < wr.heap.size) (fun _ i _ _ => 4 - (intOf i).toNat)
  case atStart => exact ⟨0, Nat.zero_le _, rfl, by first | rfl | (rw [← hp0.out]; rfl), hown4, hb4, hg4s⟩
  case round =>
    clear hown4 hb4
    obtain ⟨k, hk, rfl, rfl, hown, hb, hgs⟩ := hrel
    have hel := eanL_length left [65, 65, 65, 65] k (fun i hi => HLD.out i (by omega))
    by_cases hlt : k < 4
    · have hbyte := HBL.out k hlt
      obtain ⟨hd1, hd2⟩ := HLD.out k hlt
      obtain ⟨f1, f2, f3⟩ := eanEl_facts (HLD.out k hlt)
      have hnx : Hid (eanL left [65, 65, 65, 65] (k + 1) = eanL left [65, 65, 65, 65] k ++ barsFrom false (eanEl (nthU left k))) := Lib.hid (by
        rw [eanL_succ]
        have : ∀ k, k < 4 → nthU [65, 65, 65, 65] k = 65 := by decide
        rw [this k hlt, dmods, if_neg (by decide), if_neg (by decide)])
      have hnl : (eanL left [65, 65, 65, 65] (k + 1)).length = 3 + 7 * (k + 1) := eanL_length left [65, 65, 65, 65] (k + 1) (fun i hi => HLD.out i (by omega))
      generalize hcc : nthU left k = c at *
      have HNL := Lib.hid hnl
      clear hnl hcc
      obtain ⟨d, hd⟩ : ∃ d, c.toNat = 48 + d := ⟨c.toNat - 48, by omega⟩
      have hd10 : d < 10 := by omega
      have hEL : Hid (nthL eanW d = eanEl c) := Lib.hid (by rw [eanEl, show c.toNat - 48 = d by omega])
      have hroom : (eanL left [65, 65, 65, 65] k).length + 7 ≤ 67 := by omega
      have HEL7 := Lib.hid hel
      clear hel
      generalize eanL left [65, 65, 65, 65] k = M at *
      go_wp2_with fail
      refine (lPatterns_any _).mono ?_
      rintro e w5 ⟨⟨ta, tc, rfl, ht⟩, hb5⟩
      have hb5w := Below.two hb hb5 hb.size
      have hb5z : g < w5.heap.size := by have := hb5.size; omega
      have hown5 := own_below hown hb5
      obtain ⟨tb, to, ra, rc, rfl, hcell, hrow, hnew⟩ := ht.get d (by show d < 10; exact hd10)
      have hgb : (Value.slice ra (nthL eanW d).length rc).ownBlock ≠ some g := fun e => by have := hnew g e; omega
      clear hnew
      rw [hEL.out] at hcell hrow hgb
      rw [f1] at hcell hrow hgb
      clear hb hb5 hown ht
      go_wp2_with fail
      refine (appendPattern_any g 67 67 w.heap.size M (eanEl c) _ _ false _ hown5 rfl hrow hgb (by rw [f2]; omega) (by omega)).mono ?_
      rintro e w6 ⟨rfl, hown6, hg6⟩
      have hg6s : g < w6.heap.size := by have := hg6.size; have := hb5z; omega
      have hb6 : Below w.heap.size w w6 := hb5w.grown hg6 hb5w.size (fun k hk => by injection hk; omega)
      rw [← hnx.out] at hown6
      clear hb5w hg6 hown5 hrow hgb hcell
      go_wp2
      go_roundw
      case rel => exact ⟨k + 1, by omega, by go_num, by rw [HNL.out]; have := HEL7.out; go_num, hown6, hb6, hg6s⟩
      case measure => simp [intOf]; omega
    · have hk4 : k = 4 := by omega
      subst hk4
      have hM5 : Hid (eanR left [65, 65, 65, 65] right 0 = eanL left [65, 65, 65, 65] 4 ++ barsFrom false [1, 1, 1, 1, 1]) := Lib.hid (by
        rw [eanR, HLL.out]; simp [rightM])
      have hr0 : Hid ((eanR left [65, 65, 65, 65] right 0).length = 36) := Lib.hid (by rw [hM5.out, List.length_append, hel]; rfl)
      have hroom : (eanL left [65, 65, 65, 65] 4).length + 5 ≤ 67 := by omega
      have HEL7 := Lib.hid hel
      clear hel
      generalize eanL left [65, 65, 65, 65] 4 = M at *
      go_wp2_with fail
      refine (middle_any _).mono ?_
      rintro e w5 ⟨⟨v5, rfl, hs5, ho5⟩, hb5⟩
      have hb5w := Below.two hb hb5 hb.size
      have hb5z : g < w5.heap.size := by have := hb5.size; omega
      have hown5 := own_below hown hb5
      have hgv : v5.ownBlock ≠ some g := by rw [ho5]; intro e; injection e; omega
      clear hb hb5 hown ho5
      go_wp2_with fail
      refine (appendPattern_any g 67 67 w.heap.size M [1, 1, 1, 1, 1] _ _ false _ hown5 rfl hs5 hgv (by show _ + 5 ≤ 67; omega) (by omega)).mono ?_
      rintro e w6 ⟨rfl, hown6, hg6⟩
      have hg6s : g < w6.heap.size := by have := hg6.size; omega
      have hb6 : Below w.heap.size w w6 := hb5w.grown hg6 hb5w.size (fun k hk => by injection hk; omega)
      rw [← hM5.out] at hown6
      have hp6 : Hid ((M.length : Int) + 5 = ((eanR left [65, 65, 65, 65] right 0).length : Int)) := Lib.hid (by have h1 := hr0.out; have h2 := HEL7.out; omega)
      clear hb5w hg6 hown5 hs5 hgv
      go_wp2
      go_loopw [15, 18, 19] (fun p i _ wr => ∃ k : Nat, k ≤ 4 ∧ i = .int .i64 ((4 : Int) + k) ∧ p = .int .i64 ((eanR left [65, 65, 65, 65] right k).length : Int) ∧ wr.ownsRow w.heap.size 4 1 (.slice (some ⟨g, 0, none⟩) 67 67) 67 (fillB 67 (eanR left [65, 65, 65, 65] right k)) ∧ Below w.heap.size w wr ∧ g < wr.heap.size) (fun _ i _ _ => 8 - (intOf i).toNat)
      case atStart => exact ⟨0, Nat.zero_le _, by simp, by rw [← hp6.out], hown6, hb6, hg6s⟩
      case round =>
        clear hown6 hb6 hg6s
        obtain ⟨k, hk, rfl, rfl, hown, hb, hgs⟩ := hrel
        have hel := eanR_length left [65, 65, 65, 65] right k (fun i hi => HLD.out i (by have := HLL.out; omega)) (fun i hi => HRR.out i (by omega))
        rw [HLL.out] at hel
        by_cases hlt : k < 4
        · have hbyte := HBR.out k hlt
          have htn : ((4 : Int) + (k : Int)).toNat = 4 + k := by omega
          obtain ⟨hd1, hd2⟩ := HRR.out k hlt
          obtain ⟨f1, f2, f3⟩ := eanEl_facts (HRR.out k hlt)
          have hnx : Hid (eanR left [65, 65, 65, 65] right (k + 1) = eanR left [65, 65, 65, 65] right k ++ barsFrom true (eanEl (nthU right k))) := Lib.hid (by
            rw [eanR_succ, dmods, if_neg (by decide), if_pos rfl])
          have hnl := eanR_length left [65, 65, 65, 65] right (k + 1) (fun i hi => HLD.out i (by have := HLL.out; omega)) (fun i hi => HRR.out i (by omega))
          rw [HLL.out] at hnl
          generalize hcc : nthU right k = c at *
          have HNL := Lib.hid hnl
          clear hnl hcc
          obtain ⟨d, hd⟩ : ∃ d, c.toNat = 48 + d := ⟨c.toNat - 48, by omega⟩
          have hd10 : d < 10 := by omega
          have hEL : Hid (nthL eanW d = eanEl c) := Lib.hid (by rw [eanEl, show c.toNat - 48 = d by omega])
          have hroom : (eanR left [65, 65, 65, 65] right k).length + 7 ≤ 67 := by omega
          have HEL8 := Lib.hid hel
          clear hel
          generalize eanR left [65, 65, 65, 65] right k = M2 at *
          go_wp2_with fail
          refine (lPatterns_any _).mono ?_
          rintro e w5 ⟨⟨ta, tc, rfl, ht⟩, hb5⟩
          have hb5w := Below.two hb hb5 hb.size
          have hb5z : g < w5.heap.size := by have := hb5.size; omega
          have hown5 := own_below hown hb5
          obtain ⟨tb, to, ra, rc, rfl, hcell, hrow, hnew⟩ := ht.get d (by show d < 10; exact hd10)
          have hgb : (Value.slice ra (nthL eanW d).length rc).ownBlock ≠ some g := fun e => by have := hnew g e; omega
          clear hnew
          rw [hEL.out] at hcell hrow hgb
          rw [f1] at hcell hrow hgb
          clear hb hb5 hown ht htn
          go_wp2_with fail
          refine (appendPattern_any g 67 67 w.heap.size M2 (eanEl c) _ _ true _ hown5 rfl hrow hgb (by rw [f2]; omega) (by omega)).mono ?_
          rintro e w6 ⟨rfl, hown6, hg6⟩
          have hg6s : g < w6.heap.size := by have := hg6.size; omega
          have hb6 : Below w.heap.size w w6 := hb5w.grown hg6 hb5w.size (fun k hk => by injection hk; omega)
          rw [← hnx.out] at hown6
          clear hb5w hg6 hown5 hrow hgb hcell
          go_wp2
          go_roundw
          case rel => exact ⟨k + 1, by omega, by go_num, by rw [HNL.out]; have := HEL8.out; go_num, hown6, hb6, hg6s⟩
          case measure => simp [intOf]; omega
        · have hk4 : k = 4 := by omega
          subst hk4
          have hfin : Hid (eanR left [65, 65, 65, 65] right 4 ++ barsFrom true [1, 1, 1] = row8 r) := Lib.hid (by rw [row8, ← HFIN.out, eanRow, HRL.out])
          have hroom : (eanR left [65, 65, 65, 65] right 4).length + 3 = 67 := by omega
          have hlen : Hid ((row8 r).length = 67) := Lib.hid (by rw [← hfin.out, List.length_append]; show _ + 3 = 67; omega)
          clear hel
          generalize eanR left [65, 65, 65, 65] right 4 = M2 at *
          go_wp2_with fail
          refine (startEnd_any _).mono ?_
          rintro e w5 ⟨⟨v5, rfl, hs5, ho5⟩, hb5⟩
          have hb5w := Below.two hb hb5 hb.size
          have hown5 := own_below hown hb5
          have hgv : v5.ownBlock ≠ some g := by rw [ho5]; intro e; injection e; omega
          clear hb hb5 hown ho5
          go_wp2_with fail
          refine (appendPattern_any g 67 67 w.heap.size M2 [1, 1, 1] _ _ true _ hown5 rfl hs5 hgv (by show _ + 3 ≤ 67; omega) (by omega)).mono ?_
          rintro e w6 ⟨rfl, hown6, hg6⟩
          have hb6 : Below w.heap.size w w6 := hb5w.grown hg6 hb5w.size (fun k hk => by injection hk; omega)
          rw [hfin.out, fillB_full _ _ hlen.out] at hown6
          clear hb5w hg6 hown5 hs5 hgv
          go_wp2
          go_ret2
          exact ⟨⟨_, rfl, hown6⟩, hb6⟩

theorem bad_last {s : ByteArray} (hs : s.size = 8) (hno : ¬ okEan s 7) (hd : allDig (s.extract 0 7)) : ¬ nthU (bl s) 7 = chkB (bl (s.extract 0 7)) := by
  intro h
  have hX : bl (s.extract 0 7) = (bl s).take 7 := by rw [bl_extract]; rfl
  have hxl : (s.extract 0 7).size = 7 := by rw [ByteArray.size_extract]; omega
  refine hno ⟨fun i hi => ?_, .inr ⟨hs, by rw [h, hX]⟩⟩
  by_cases h7 : i = 7
  · rw [h7, h]; exact chkB_dig _
  · have := hd i (by omega)
    rw [hX, nthU_takeD _ _ _ (by omega)] at this
    exact this

set_option maxHeartbeats 4000000 in
set_option maxRecDepth 100000 in
theorem enc8_bad (s : ByteArray) (w : World) (hs : s.size ≤ 2147483647) (hno : ¬ okEan s 7) (x : Value) :
    Calls Tryd.prog 27 #[.agg #[], .string s, x] w fun e w' =>
      (∃ u y, e = .returned (.tuple #[.slice none 0 0, .iface u y])) ∧ Below w.heap.size w w' := by
  have hb00 : Below w.heap.size w (w.alloc (.cells #[] 42)) := below_alloc _ _
  by_cases h7 : s.size = 7
  · have HND : Hid (¬ allDig s) := Lib.hid (fun h => hno ⟨h, .inl h7⟩)
    clear hno
    go_enter Tryd.func27, Tryd.ntmps27
    go_wp2_with fail
    refine (getChk_any s (by omega) _).mono ?_
    rintro e wa ⟨hcase, hba⟩
    have hb0 := Below.two hb00 hba hb00.size
    clear hb00 hba
    rcases hcase with ⟨hd, _⟩ | ⟨_, rfl⟩
    case inl => exact absurd hd HND.out
    go_wp2_with fail
    rw [exc_take]
    refine (excError_any _ _).mono ?_
    rintro e wc ⟨rfl, hbc⟩
    have hb1 := Below.two hb0 hbc hb0.size
    clear hb0 hbc
    go_wp2_with (go_at_call 31; refine (NewWriterException_any _ _).mono ?_; rintro e w2 ⟨⟨u, x, rfl⟩, hb2⟩)
    go_ret2
    exact ⟨⟨_, _, rfl⟩, Below.two (by first | exact hb1 | exact hb1.alloc hb1.size _ | exact (hb1.alloc hb1.size _).alloc (hb1.alloc hb1.size _).size _ | go_grown) hb2 (by have := hb1.size; simp <;> omega)⟩
  · by_cases h8 : s.size = 8
    · have HBAD := Lib.hid (bad_last h8 hno)
      clear hno
      go_enter Tryd.func27, Tryd.ntmps27
      go_wp2_with fail
      refine (checkChk_any s 7 h8 (by omega) _).mono ?_
      rintro e wa ⟨hcase, hba⟩
      have hb0 := Below.two hb00 hba hb00.size
      clear hb00 hba
      rcases hcase with ⟨hd, rfl⟩ | ⟨_, rfl⟩
      · rw [decide_eq_false (HBAD.out hd)]
        clear hd
        have hb1 := hb0
        clear hb0
        go_wp2_with (go_at_call 31; refine (NewWriterException_any _ _).mono ?_; rintro e w2 ⟨⟨u, x, rfl⟩, hb2⟩)
        go_ret2
        exact ⟨⟨_, _, rfl⟩, Below.two (by first | exact hb1 | exact hb1.alloc hb1.size _ | exact (hb1.alloc hb1.size _).alloc (hb1.alloc hb1.size _).size _ | go_grown) hb2 (by have := hb1.size; simp <;> omega)⟩
      · go_wp2_with fail
        rw [exc_take]
        refine (excError_any _ _).mono ?_
        rintro e wc ⟨rfl, hbc⟩
        have hb1 := Below.two hb0 hbc hb0.size
        clear hb0 hbc
        go_wp2_with (go_at_call 31; refine (NewWriterException_any _ _).mono ?_; rintro e w2 ⟨⟨u, x, rfl⟩, hb2⟩)
        go_ret2
        exact ⟨⟨_, _, rfl⟩, Below.two (by first | exact hb1 | exact hb1.alloc hb1.size _ | exact (hb1.alloc hb1.size _).alloc (hb1.alloc hb1.size _).size _ | go_grown) hb2 (by have := hb1.size; simp <;> omega)⟩
    · clear hno
      have hn7 : ((s.size : Int) == 7) = false := by rw [beq_eq_false_iff_ne]; omega
      have hn8 : ((s.size : Int) == 8) = false := by rw [beq_eq_false_iff_ne]; omega
      have hb1 := hb00
      clear hb00
      go_enter Tryd.func27, Tryd.ntmps27
      go_wp2_with (go_at_call 31; refine (NewWriterException_any _ _).mono ?_; rintro e w2 ⟨⟨u, x, rfl⟩, hb2⟩)
      go_ret2
      exact ⟨⟨_, _, rfl⟩, Below.two (by first | exact hb1 | exact hb1.alloc hb1.size _ | exact (hb1.alloc hb1.size _).alloc (hb1.alloc hb1.size _).size _ | go_grown) hb2 (by have := hb1.size; simp <;> omega)⟩
end Go.Proofs.YtpgddedhhjbgoaaDoor
