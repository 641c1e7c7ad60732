/- Walks: the encoder of UPC-E at eight digits. (Printed by genUE.py.) -/
import Derived.Test.YtpgddedhhjbgoaaDoorUpcV
import Derived.Test.YtpgddedhhjbgoaaDoorUpcM
import Derived.Test.YtpgddedhhjbgoaaDoorEanG
import Derived.Test.YtpgddedhhjbgoaaDoorApp
import Derived.Test.YtpgddedhhjbgoaaDoorNum
namespace Go.Proofs.YtpgddedhhjbgoaaDoor
open Go.RowKit

def numT : List (List Nat) := [[56, 52, 50, 49, 44, 38, 35, 42, 41, 37], [7, 11, 13, 14, 19, 25, 28, 21, 22, 26]]
theorem numT_facts : ∀ f, f < 2 → (nthL numT f).length = 10 ∧ ∀ x ∈ nthL numT f, x ≤ 1000 := by decide
theorem parE : ∀ f, f < 2 → ∀ d, d < 10 → ∀ k, k < 6 → ((nth (nthL numT f) d >>> (5 - k)) % 2 = 1 ↔ nthU (if f = 0 then bl (setsET.getD d ⟨#[]⟩) else (bl (setsET.getD d ⟨#[]⟩)).map turned) k = 66) := by decide
set_option maxHeartbeats 1000000 in
set_option maxRecDepth 100000 in
theorem numsys_any (w : World) :
    Calls Tryd.prog 42 #[] w fun e w' => (∃ a c, e = .returned (.slice a 2 c) ∧ TblN w.heap.size w' (.slice a 2 c) numT) ∧ Below w.heap.size w w' := by
  go_enter Tryd.func42, Tryd.ntmps42
  go_wp2
  go_ret
  have h := tbl_litN w 3 60 numT (by decide) (by decide)
  exact ⟨⟨_, _, rfl, h.1⟩, h.2⟩
theorem endE_any (w : World) :
    Calls Tryd.prog 43 #[] w fun e w' => (∃ v, e = .returned v ∧ SlAt w' v ([1, 1, 1, 1, 1, 1].map I64) ∧ v.ownBlock = some w.heap.size) ∧ Below w.heap.size w w' := by
  go_enter Tryd.func43, Tryd.ntmps43
  go_wp2
  go_ret
  exact ⟨⟨_, rfl, SlAt.of_own (own_lit w 3 ([1, 1, 1, 1, 1, 1].map I64) (by decide)), rfl⟩, below_alloc _ _⟩

theorem eight {l : List UInt8} (h : l.length = 8) : ∃ a0 a1 a2 a3 a4 a5 a6 a7, l = [a0, a1, a2, a3, a4, a5, a6, a7] := by
  match l, h with
  | [a0, a1, a2, a3, a4, a5, a6, a7], _ => exact ⟨a0, a1, a2, a3, a4, a5, a6, a7, rfl⟩
/-- The row of eight digits of UPC-E. -/
def rowE8 (r : ByteArray) : List Bool := rowE ((bl r).extract 1 7) (setsE (nthU (bl r) 0) (nthU (bl r) 7))

set_option maxHeartbeats 1500000 in
set_option maxRecDepth 100000 in
theorem encE_ok (r : ByteArray) (w : World) (hr8 : r.size = 8) (hd : allDig r) (h49 : (nthU (bl r) 0).toNat ≤ 49) (hlast : nthU (bl r) 7 = chkE ((bl r).take 7)) (x : Value) :
    Calls Tryd.prog 29 #[.agg #[], .string r, x] w fun e w' =>
      (∃ v, e = .returned (.tuple #[v, .nilIface]) ∧ w'.ownsRow w.heap.size 4 1 v 51 ((rowE8 r).map .bool)) ∧ Below w.heap.size w w' := by
  obtain ⟨j0, hj, hy0, hy1, hy2⟩ := info_parts info_bool
  have hbl : (bl r).length = 8 := by rw [bl_length]; exact hr8
  have HRD := Lib.hid hd
  obtain ⟨a0, a1, a2, a3, a4, a5, a6, a7, h8⟩ := eight hbl
  have H8 := Lib.hid h8
  have hda : ∀ x ∈ [a0, a1, a2, a3, a4, a5, a6, a7], isDig x := fun x hx => by
    rw [← h8] at hx
    obtain ⟨i, hi, rfl⟩ := List.mem_iff_getElem.1 hx
    rw [← nthU_eq hi]; exact hd i (by rw [← bl_length]; exact hi)
  have HD6 := Lib.hid (hda a6 (by simp))
  have HDA : Hid (∀ x ∈ [a0, a1, a2, a3, a4, a5, a6], isDig x) := Lib.hid (fun x hx => hda x (by
    simp only [List.mem_cons, List.not_mem_nil, or_false] at hx ⊢
    rcases hx with h | h | h | h | h | h | h <;> simp [h]))
  have hl7 : a7 = chkE [a0, a1, a2, a3, a4, a5, a6] := by
    rw [h8] at hlast; exact hlast
  have HL7 := Lib.hid hl7
  have HLOW : Hid (∀ i, i < r.size → (nthU (bl r) i).toNat < 128) := Lib.hid (fun i hi => by have := HRD.out i hi; unfold isDig at this; omega)
  have hx : (bl r).extract 1 7 = ((bl r).take 7).drop 1 := by rw [List.extract_eq_take_drop, List.drop_take]
  have hln : ∀ k, k < 6 → nthU ((bl r).extract 1 7) k = nthU (bl r) (1 + k) := fun k hk => by
    rw [hx]; simp only [nthU, List.getD, List.getElem?_drop, List.getElem?_take]; rw [if_pos (by omega)]
  have HLD : Hid (∀ k, k < 6 → isDig (nthU ((bl r).extract 1 7) k)) := Lib.hid (fun k hk => by rw [hln k hk]; exact HRD.out (1 + k) (by omega))
  have HBL : Hid (∀ ii k, k + 1 = ii → (h : k < 6) → (h2 : ii < r.size) → r[ii]'h2 = nthU ((bl r).extract 1 7) k) := Lib.hid (fun ii k hik hk h2 => by rw [hln k hk, bl_get r ii h2, ← hik, Nat.add_comm])
  have HROW : Hid (rowE8 r = rowE ((bl r).extract 1 7) (setsE (nthU (bl r) 0) (nthU (bl r) 7))) := Lib.hid rfl
  have hg0 := bl_get r 0 (by omega)
  have hg7 := bl_get r 7 (by omega)
  have hd0 := hd 0 (by omega)
  have hd7 := hd 7 (by omega)
  have hslen := setsE_length (f := nthU (bl r) 0) hd7
  have hsab := fun k hk => setsE_ab (f := nthU (bl r) 0) hd7 k hk
  generalize (bl r).extract 1 7 = left at *
  generalize nthU (bl r) 0 = c0 at *
  generalize nthU (bl r) 7 = c7 at *
  obtain ⟨f, hf⟩ : ∃ f, c0.toNat = 48 + f := ⟨c0.toNat - 48, by unfold isDig at hd0; omega⟩
  obtain ⟨d7, hd7e⟩ : ∃ d, c7.toNat = 48 + d := ⟨c7.toNat - 48, by unfold isDig at hd7; omega⟩
  have hf2 : f < 2 := by omega
  have hd710 : d7 < 10 := by unfold isDig at hd7; omega
  have HPAR : Hid (∀ k, k < 6 → ((nth (nthL numT f) d7 >>> (5 - k)) % 2 = 1 ↔ nthU (setsE c0 c7) k = 66)) := Lib.hid (fun k hk => by
    rw [parE f hf2 d7 hd710 k hk, setsE]
    rw [show c7.toNat - 48 = d7 by omega]
    by_cases h0 : f = 0
    · rw [if_pos h0, if_pos (by omega)]
    · rw [if_neg h0, if_neg (by omega)])
  have HSE67 : Hid (∀ k, k < 6 → nthU (setsE c0 c7) k ≠ 67) := Lib.hid (fun k hk e => by
    rcases hsab k hk with h | h <;> (rw [h] at e; exact absurd e (by decide)))
  generalize setsE c0 c7 = sets at *
  obtain ⟨nf1, nf2⟩ := numT_facts f hf2
  clear hd hbl h8 hda hlast hl7 hx hln hd0 hd7 hslen hsab h49
  have hb00 : Below w.heap.size w (w.alloc (.cells #[] 46)) := below_alloc _ _
  go_enter Tryd.func29, Tryd.ntmps29
  go_wp2_with fail
  refine (convertE_any r a0 a1 a2 a3 a4 a5 a6 a7 H8.out HD6.out _).mono ?_
  rintro e wa ⟨⟨q, rfl, hq⟩, hba⟩
  have hba2 := Below.two hb00 hba hb00.size
  have hwl := wideE_length [a0, a1, a2, a3, a4, a5, a6] rfl
  have hq12 : q.size = 11 + 1 := by rw [← bl_length, hq, List.length_append, hwl]; rfl
  have hqx : bl (q.extract 0 11) = wideE [a0, a1, a2, a3, a4, a5, a6] := by
    rw [bl_extract, hq, List.drop_zero, List.take_left' hwl]
  have HQD := Lib.hid (wide_dig hqx HDA.out)
  have hqlast : nthU (bl q) 11 = a7 := by
    rw [hq, nthU, List.getD, List.getElem?_append_right (by omega), hwl]; rfl
  have HDEC : Hid (decide (nthU (bl q) 11 = chkB (bl (q.extract 0 11))) = true) := Lib.hid (decide_eq_true (by rw [hqlast, hqx, HL7.out]; rfl))
  clear hq hqx hqlast hwl hba hb00
  go_wp2_with fail
  refine (checkChk_any q 11 hq12 (by omega) _).mono ?_
  rintro e wb ⟨hcase, hbb⟩
  have hb0 := Below.two hba2 hbb hba2.size
  clear hba2 hbb
  rcases hcase with ⟨_, rfl⟩ | ⟨hno, _⟩
  case inr => exact absurd HQD.out hno
  rw [HDEC.out]
  clear HDEC HQD hq12
  go_wp2_with fail
  refine (checkNumeric_any r _ HLOW.out (by omega)).mono ?_
  rintro e w1 ⟨hcase, hb1⟩
  have hb1w := Below.two hb0 hb1 hb0.size
  clear hb0 hb1
  rcases hcase with ⟨_, rfl⟩ | ⟨hno, _⟩
  case inr => exact absurd HRD.out hno
  have hfc : f = 0 ∨ f = 1 := by omega
  have hfi : ((f : Int) != 0 && (f : Int) != 1) = false := by rcases hfc with h | h <;> simp [h]
  have HFC := Lib.hid hfc
  clear hfc
  rcases HFC.out with rfl | rfl
  all_goals
    clear HFC
    go_wp2_with fail
    refine (numsys_any _).mono ?_
    rintro e wt ⟨⟨fa, fc, rfl, hft⟩, hbt⟩
    have hbtw := Below.two hb1w hbt hb1w.size
    obtain ⟨fb, fo, ra0, rc0, rfl, hfcell, hfrow, _⟩ := hft.get _ hf2
    rw [nf1] at hfcell hfrow
    try rw [Nat.add_zero] at hfcell
    obtain ⟨pb, po, rfl, hpc⟩ := hfrow.getI d7 (by rw [nf1]; exact hd710)
    have hpar := nth_le nf2 d7
    generalize nth (nthL numT _) d7 = par at *
    clear hb1w hbt hft hfrow hg0 hg7 hfi
    have hb1w := hbtw
    clear hbtw
    have hsz1 := hb1w.size
    go_wp2_with (at_make; refine wpList_make_full _ rfl _ _ 24 rfl w.heap.size 4 j0 (.bool false) 1 Tryd.underlying24 hj hy0 hy1 _ _ _ _ 51 rfl rfl rfl rfl (by rw [hy2]; omega) (by unfold maxLen; omega) hsz1 ?_)
    intro w2 hown hgrow
    have hb2 : Below w.heap.size w w2 := hb1w.grown hgrow hsz1 (fun k hk => by cases hk)
    obtain ⟨hg1, hg2⟩ := hown.lt _ rfl
    rw [made_bools] at hown
    clear hgrow hb1w
    generalize wt.heap.size = g at *
    go_wp2_with fail
    refine (startEnd_any _).mono ?_
    rintro e w3 ⟨⟨v3, rfl, hs3, ho3⟩, hb3⟩
    have hb3w := Below.two hb2 hb3 hb2.size
    have hb3z : g < w3.heap.size := by have := hb3.size; omega
    have hown3 := own_below hown hb3
    have hgv : v3.ownBlock ≠ some g := by rw [ho3]; intro e; injection e; omega
    clear hb2 hb3 hown ho3 hg2
    go_wp2_with fail
    refine (appendPattern_any g 51 51 w.heap.size [] [1, 1, 1] _ _ true _ hown3 rfl hs3 hgv (by decide) (by omega)).mono ?_
    rintro e w4 ⟨rfl, hown4, hg4⟩
    have hb4 : Below w.heap.size w w4 := hb3w.grown hg4 hb3w.size (fun k hk => by injection hk; omega)
    rw [show [] ++ barsFrom true [1, 1, 1] = eanL left sets 0 by simp [eanL, leftM]] at hown4
    have hp0 : Hid ((0 : Int) + (([1, 1, 1] : List Nat).sum : Int) = ((eanL left sets 0).length : Int)) := Lib.hid (by simp [eanL, leftM, barsFrom])
    have hg4s : g < w4.heap.size := by have := hg4.size; have := hb3z; omega
    clear hb3w hg4 hown3 hs3 hgv
    go_wp2
    go_loopw [18, 19, 20] (fun p i _ wr => ∃ ii k : Nat, k + 1 = ii ∧ k ≤ 6 ∧ i = .int .i64 ii ∧ p = .int .i64 ((eanL left sets k).length : Int) ∧ wr.ownsRow w.heap.size 4 1 (.slice (some ⟨g, 0, none⟩) 51 51) 51 (fillB 51 (eanL left sets k)) ∧ Below w.heap.size w wr ∧ g < wr.heap.size) (fun _ i _ _ => 7 - (intOf i).toNat)
    case atStart => exact ⟨1, 0, rfl, Nat.zero_le _, rfl, by first | rfl | (rw [← hp0.out]; rfl), hown4, hb4, hg4s⟩
    case round =>
      clear hown4 hb4
      obtain ⟨ii, k, hik, hk, rfl, rfl, hown, hb, hgs⟩ := hrel
      have hel := eanL_length left sets k (fun i hi => HLD.out i (by omega))
      by_cases hlt : k < 6
      · have hii : ii ≤ 6 := by omega
        have hir : ii < r.size := by omega
        have hbyte := HBL.out ii k hik hlt hir
        obtain ⟨hd1, hd2⟩ := HLD.out k hlt
        obtain ⟨f1, f2, f3⟩ := eanEl_facts (HLD.out k hlt)
        have hnx : Hid (eanL left sets (k + 1) = eanL left sets k ++ dmods (nthU sets k) (nthU left k)) := Lib.hid (eanL_succ _ _ _)
        have hnl : (eanL left sets (k + 1)).length = 3 + 7 * (k + 1) := eanL_length left sets (k + 1) (fun i hi => HLD.out i (by omega))
        have hpk := HPAR.out k hlt
        have hs67 := HSE67.out k hlt
        obtain ⟨q, hq⟩ : ∃ q, q + ii = 6 := ⟨6 - ii, by omega⟩
        rw [show 5 - k = q by omega] at hpk
        have hqi : (6 : Int) - (ii : Int) = (q : Int) := by omega
        have hq5 : q ≤ 6 := by omega
        generalize hcc : nthU left k = c at *
        generalize nthU sets k = se at *
        have HNL := Lib.hid hnl
        clear hnl hcc hq
        obtain ⟨d, hd⟩ : ∃ d, c.toNat = 48 + d := ⟨c.toNat - 48, by omega⟩
        have hd10 : d < 10 := by omega
        have hELd : nthL eanW d = eanEl c := by rw [eanEl, show c.toNat - 48 = d by omega]
        have hroom : (eanL left sets k).length + 7 ≤ 51 := by omega
        have HEL7 := Lib.hid hel
        have HIK := Lib.hid hik
        clear hel hik
        generalize eanL left sets k = M at *
        by_cases hse : se = 66
        · have hbz := bit_yes par q (by omega) (hpk.2 hse)
          have hEL : Hid (nthL lgW (d + 10) = (eanEl c).reverse) := Lib.hid (by rw [Nat.add_comm, lgW_high d hd10, hELd])
          have hdm : Hid (dmods se c = barsFrom false (eanEl c).reverse) := Lib.hid (by rw [dmods, if_pos hse])
          have g1 : (eanEl c).reverse.length = 4 := by rw [List.length_reverse, f1]
          have g2 : (eanEl c).reverse.sum = 7 := by rw [sum_rev, f2]
          clear hpk hse hELd
          go_wp2_with fail
          refine (lgPatterns_any _).mono ?_
          rintro e w5 ⟨⟨ta, tc, rfl, ht⟩, hb5⟩
          have hb5w := Below.two hb hb5 hb.size
          have hb5z : g < w5.heap.size := by have := hb5.size; omega
          have hown5 := own_below hown hb5
          obtain ⟨tb, to, ra, rc, rfl, hcell, hrow, hnew⟩ := ht.get (d + 10) (by show d + 10 < 20; omega)
          have hgb : (Value.slice ra (nthL lgW (d + 10)).length rc).ownBlock ≠ some g := fun e => by have := hnew g e; omega
          clear hnew
          rw [hEL.out] at hcell hrow hgb
          rw [g1] at hcell hrow hgb
          clear hb hb5 hown ht
          go_wp2_with fail
          refine (appendPattern_any g 51 51 w.heap.size M ((eanEl c).reverse) _ _ false _ hown5 rfl hrow hgb (by rw [g2]; omega) (by omega)).mono ?_
          rintro e w6 ⟨rfl, hown6, hg6⟩
          have hg6s : g < w6.heap.size := by have := hg6.size; have := hb5z; omega
          have hb6 : Below w.heap.size w w6 := hb5w.grown hg6 hb5w.size (fun k hk => by injection hk; omega)
          rw [← hdm.out, ← hnx.out] at hown6
          clear hb5w hg6 hown5 hrow hgb hcell hbz
          go_wp2
          go_roundw
          case rel => exact ⟨ii + 1, k + 1, by have := HIK.out; omega, by omega, by go_num, by rw [HNL.out]; have := HEL7.out; go_num, hown6, hb6, hg6s⟩
          case measure => simp [intOf]; omega
        · have hbz := bit_no par q (by omega) (fun h => hse (hpk.1 h))
          have hse67 : se ≠ 67 := hs67
          have hEL : Hid (nthL lgW d = eanEl c) := Lib.hid (by rw [lgW_low d hd10, hELd])
          have hdm : Hid (dmods se c = barsFrom false (eanEl c)) := Lib.hid (by rw [dmods, if_neg hse, if_neg hse67])
          have g1 := f1
          have g2 := f2
          clear hpk hse hELd
          go_wp2_with fail
          refine (lgPatterns_any _).mono ?_
          rintro e w5 ⟨⟨ta, tc, rfl, ht⟩, hb5⟩
          have hb5w := Below.two hb hb5 hb.size
          have hb5z : g < w5.heap.size := by have := hb5.size; omega
          have hown5 := own_below hown hb5
          obtain ⟨tb, to, ra, rc, rfl, hcell, hrow, hnew⟩ := ht.get (d) (by show d < 20; omega)
          have hgb : (Value.slice ra (nthL lgW (d)).length rc).ownBlock ≠ some g := fun e => by have := hnew g e; omega
          clear hnew
          rw [hEL.out] at hcell hrow hgb
          rw [g1] at hcell hrow hgb
          clear hb hb5 hown ht
          go_wp2_with fail
          refine (appendPattern_any g 51 51 w.heap.size M (eanEl c) _ _ false _ hown5 rfl hrow hgb (by rw [g2]; omega) (by omega)).mono ?_
          rintro e w6 ⟨rfl, hown6, hg6⟩
          have hg6s : g < w6.heap.size := by have := hg6.size; have := hb5z; omega
          have hb6 : Below w.heap.size w w6 := hb5w.grown hg6 hb5w.size (fun k hk => by injection hk; omega)
          rw [← hdm.out, ← hnx.out] at hown6
          clear hb5w hg6 hown5 hrow hgb hcell hbz
          go_wp2
          go_roundw
          case rel => exact ⟨ii + 1, k + 1, by have := HIK.out; omega, by omega, by go_num, by rw [HNL.out]; have := HEL7.out; go_num, hown6, hb6, hg6s⟩
          case measure => simp [intOf]; omega
      · have hk6 : k = 6 := by omega
        subst hk6
        have hfin : Hid (eanL left sets 6 ++ barsFrom false [1, 1, 1, 1, 1, 1] = rowE8 r) := Lib.hid (by rw [HROW.out]; rfl)
        have hroom : (eanL left sets 6).length + 6 = 51 := by omega
        have hlen : Hid ((rowE8 r).length = 51) := Lib.hid (by rw [← hfin.out, List.length_append]; show _ + 6 = 51; omega)
        clear hel
        generalize eanL left sets 6 = M2 at *
        go_wp2_with fail
        refine (endE_any _).mono ?_
        rintro e w5 ⟨⟨v5, rfl, hs5, ho5⟩, hb5⟩
        have hb5w := Below.two hb hb5 hb.size
        have hown5 := own_below hown hb5
        have hgv : v5.ownBlock ≠ some g := by rw [ho5]; intro e; injection e; omega
        clear hb hb5 hown ho5
        go_wp2_with fail
        refine (appendPattern_any g 51 51 w.heap.size M2 [1, 1, 1, 1, 1, 1] _ _ false _ hown5 rfl hs5 hgv (by show _ + 6 ≤ 51; omega) (by omega)).mono ?_
        rintro e w6 ⟨rfl, hown6, hg6⟩
        have hb6 : Below w.heap.size w w6 := hb5w.grown hg6 hb5w.size (fun k hk => by injection hk; omega)
        rw [hfin.out, fillB_full _ _ hlen.out] at hown6
        clear hb5w hg6 hown5 hs5 hgv
        go_wp2
        go_ret2
        exact ⟨⟨_, rfl, hown6⟩, hb6⟩
end Go.Proofs.YtpgddedhhjbgoaaDoor
