/- Walks: the encoder of Code 93. (Printed by gen93E.py.) -/
import Derived.Test.Ytpgddedhhjbgoaa93F
import Derived.Test.Ytpgddedhhjbgoaa93X
import Derived.Test.YtpgddedhhjbgoaaExc
import Derived.Test.YtpgddedhhjbgoaaElem
namespace Go.Proofs.Ytpgddedhhjbgoaa
open Go.RowKit

/-- The modules of the start and so many signs. -/
def mm93 (ds : List UInt8) (k : Nat) : List Bool := mods93 ([47] ++ (vals93 ds).take k)
theorem mm93_succ (ds : List UInt8) (k : Nat) (h : k < ds.length) : mm93 ds (k + 1) = mm93 ds k ++ bits9 (nth bits93T (idxU signs93 (nthU ds k))) := by
  unfold mm93
  rw [List.take_succ_eq_append_getElem (by rw [vals93_length]; exact h), ← List.append_assoc, mods93_append _ [_], mods93_one]
  rw [← nth_eq, vals93_nth _ _ h]
theorem mm93_length (ds : List UInt8) (k : Nat) (h : k ≤ ds.length) : (mm93 ds k).length = 9 + 9 * k := by
  unfold mm93
  rw [mods93_length, List.length_append, List.length_take, vals93_length, Nat.min_eq_left h]
  simp only [List.length_cons, List.length_nil]; omega
theorem mm93_full (ds : List UInt8) (k : Nat) (h : ds.length = k) : mm93 ds k = mods93 ([47] ++ vals93 ds) := by
  unfold mm93
  rw [List.take_of_length_le (by rw [vals93_length]; omega)]
theorem bits93T_le' : ∀ x ∈ bits93T, x ≤ 1000 := by decide

set_option maxHeartbeats 4000000 in
set_option maxRecDepth 100000 in
theorem enc93_ok (s : ByteArray) (w : World) (h0 : 0 < s.size) (hs : s.size ≤ 40) (ha : ∀ i, i < s.size → (nthU (bl s) i).toNat < 128) (x : Value) :
    Calls Try.prog 38 #[.agg #[], .string s, x] w fun e w' =>
      (∃ v, e = .returned (.tuple #[v, .nilIface]) ∧ w'.ownsRow w.heap.size 4 1 v (row93 (pairs93 (bl s) s.size)).length ((row93 (pairs93 (bl s) s.size)).map .bool)) ∧ Below w.heap.size w w' := by
  obtain ⟨j0, hj, hy0, hy1, hy2⟩ := info_parts info_bool
  have HA := Lib.hid ha
  clear ha
  have hb0 : Below w.heap.size w (w.alloc (.cells #[] 53)) := below_alloc _ _
  go_enter Try.func38, Try.ntmps38
  go_wp2_with fail
  refine (ext93_any s _ (by omega) HA.out).mono ?_
  rintro e w1 ⟨⟨r, rfl, hr⟩, hb1⟩
  have hb1' := Below.two hb0 hb1 hb0.size
  have hpl := pairs93_length (bl s) s.size HA.out
  have HD : Hid (∀ i, i < r.size → nthU (bl r) i ∈ signs93) := Lib.hid (all_memU (by rw [hr]; exact pairs93_signs _ _ HA.out))
  rw [← hr, bl_length] at hpl
  have HR := Lib.hid hr
  have hr80 : r.size ≤ 80 := by omega
  have hr1 : 1 ≤ r.size := by omega
  clear hr hb0 hb1 hpl HA h0 hs
  have hsz1 := hb1'.size
  generalize hN : (r.size + 4) * 9 + 1 = N at *
  have HN := Lib.hid hN
  have hN1 : N ≤ 2000 := by omega
  clear hN
  go_wp2_with (at_make; refine wpList_make_full _ rfl _ _ 24 rfl w.heap.size 4 j0 (.bool false) 1 Try.underlying24 hj hy0 hy1 _ _ _ _ N rfl rfl ?a1 ?a2 ?b1 ?b2 hsz1 ?_)
  case a1 => have := HN.out; omega
  case a2 => have := HN.out; omega
  case b1 => first | (rw [hy2]; omega) | omega
  case b2 => unfold maxLen; omega
  intro w2 hown hgrow
  have hb2 : Below w.heap.size w w2 := hb1'.grown hgrow hsz1 (fun k hk => by cases hk)
  obtain ⟨hg1, hg2⟩ := hown.lt _ rfl
  rw [made_bools] at hown
  clear hgrow hb1' hg2
  generalize w1.heap.size = g at *
  go_wp2_with fail
  refine (append93_any g N N w.heap.size [] 350 _ (by omega) _ hown rfl (by have := HN.out; show 0 + 9 ≤ N; omega) (by omega)).mono ?_
  rintro e w3 ⟨rfl, hown3, hg3⟩
  have hb3 : Below w.heap.size w w3 := hb2.grown hg3 hb2.size (fun k hk => by injection hk; omega)
  rw [show [] ++ bits9 350 = mm93 (bl r) 0 from rfl] at hown3
  clear hg3 hb2 hown
  go_wp2
  go_loopw [12, 13, 14] (fun p i _ wr => ∃ k : Nat, k ≤ r.size ∧ i = .int .i64 k ∧ p = .int .i64 ((mm93 (bl r) k).length : Int) ∧ wr.ownsRow w.heap.size 4 1 (.slice (some ⟨g, 0, none⟩) N N) N (fillB N (mm93 (bl r) k)) ∧ Below w.heap.size w wr) (fun _ i _ _ => r.size - (intOf i).toNat)
  case atStart => exact ⟨0, Nat.zero_le _, rfl, rfl, hown3, hb3⟩
  case round =>
    clear hown3 hb3
    obtain ⟨k, hk, rfl, rfl, hown, hb⟩ := hrel
    have hrange : k ≤ (bl r).length := by rw [bl_length]; omega
    by_cases hlt : k < r.size
    · have hbyte := bl_get r k hlt
      have hmem := HD.out k hlt
      have hms := Lib.hid (mm93_succ (bl r) k (by rw [bl_length]; exact hlt))
      have hidx := idxU_lt hmem
      have e47 : signs93.length = 47 := rfl
      rw [e47] at hidx
      have hzz : Hid (zzIdx (bl signs93SB) (nthU (bl r) k) = (idxU signs93 (nthU (bl r) k) : Int)) := Lib.hid (by
        rw [zzIdx, if_pos (show nthU (bl r) k ∈ bl signs93SB from List.mem_append_left _ hmem), idx93_S hmem])
      have hlowA := Lib.hid (signs93_low _ hmem)
      have hml : (mm93 (bl r) k).length + 9 ≤ N := by rw [mm93_length _ _ hrange, ← HN.out]; omega
      generalize nthU (bl r) k = A at *
      generalize idxU signs93 A = ix at *
      clear hmem e47 hrange
      generalize mm93 (bl r) k = M at *
      go_wp2_with fail
      rw [enc93_byte hlowA.out]
      refine (zzIndex_any signs93SB A (by decide) _).mono ?_
      rintro e wa ⟨rfl, rfl⟩
      rw [hzz.out]
      clear hzz hbyte hlowA
      go_wp2_with fail
      refine (enc93_any _).mono ?_
      rintro e w7 ⟨⟨ea, ec, rfl, hse⟩, hb7⟩
      have hb7' := Below.two hb hb7 hb.size
      have hown7 := own_below hown hb7
      obtain ⟨eb, eo, rfl, hce⟩ := hse.getI ix (by show _ < 48; omega)
      have hcode := nth_le bits93T_le' ix
      clear hb hb7 hown hse
      generalize hC : nth bits93T ix = code at *
      have HC := Lib.hid hC
      clear hC
      go_wp2_with fail
      refine (append93_any g N N w.heap.size M code _ hcode _ hown7 rfl (by omega) (by omega)).mono ?_
      rintro e w9 ⟨rfl, hown9, hg9⟩
      have hb9 : Below w.heap.size w w9 := hb7'.grown hg9 hb7'.size (fun k hk => by injection hk; omega)
      clear hb7' hown7 hg9 hce hcode
      rw [← hms.out] at hown9
      have hpl : Hid ((M.length : Int) + 9 = ((mm93 (bl r) (k + 1)).length : Int)) := Lib.hid (by rw [hms.out, List.length_append, bits9_length]; rfl)
      clear HC
      go_wp2
      go_roundw
      case rel => exact ⟨k + 1, by omega, by go_num, by rw [← hpl.out], hown9, hb9⟩
      case measure => simp [intOf]; omega
    · have hk' : k = r.size := by omega
      have HMK := Lib.hid (show mm93 (bl r) k = mods93 ([47] ++ vals93 (bl r)) by rw [hk', mm93_full _ _ (bl_length r)])
      have hml : (mm93 (bl r) k).length = 9 + 9 * r.size := by rw [mm93_length _ _ (by rw [bl_length]; omega), hk']
      clear hk' hrange
      generalize mm93 (bl r) k = M at *
      have hroom : M.length + 28 ≤ N := by have := HN.out; omega
      have HML := Lib.hid hml
      clear hml
      go_wp2_with fail
      refine (sum93_any r 20 (by omega) (by omega) (by omega) HD.out _).mono ?_
      rintro e wa ⟨rfl, rfl⟩
      have hc1 := check93_lt (vals93 (bl r)) 20
      generalize hC1 : check93 (vals93 (bl r)) 20 = c1 at *
      have HC1 := Lib.hid hC1
      clear hC1
      go_wp2_with fail
      refine (enc93_any _).mono ?_
      rintro e w7 ⟨⟨ea, ec, rfl, hse⟩, hb7⟩
      have hb7' := Below.two hb hb7 hb.size
      have hown7 := own_below hown hb7
      obtain ⟨eb, eo, rfl, hce⟩ := hse.getI c1 (by show _ < 48; omega)
      have hcode := nth_le bits93T_le' c1
      clear hb hb7 hown hse
      generalize hC : nth bits93T c1 = code at *
      have HC := Lib.hid hC
      clear hC
      go_wp2_with fail
      refine (append93_any g N N w.heap.size M code _ hcode _ hown7 rfl (by omega) (by omega)).mono ?_
      rintro e w9 ⟨rfl, hown9, hg9⟩
      have hb9 : Below w.heap.size w w9 := hb7'.grown hg9 hb7'.size (fun k hk => by injection hk; omega)
      clear hb7' hown7 hg9 hce hcode

      obtain ⟨B1, hbs, hsg1, hsg2⟩ := sign_get c1 hc1
      have henc1 := enc93_byte (signs93_low _ hsg1)
      have hsgs : Hid (∀ i, i < (r ++ ⟨#[B1]⟩ : ByteArray).size → nthU (bl (r ++ ⟨#[B1]⟩)) i ∈ signs93) := Lib.hid (fun i hi => by
        have hbl : bl (r ++ ⟨#[B1]⟩) = bl r ++ [B1] := by rw [bl_append]; rfl
        have hi' : i < r.size + 1 := by rw [ByteArray.size_append'] at hi; exact hi
        rw [hbl]
        by_cases h : i < r.size
        · have e : nthU (bl r ++ [B1]) i = nthU (bl r) i := by
            simp only [nthU, List.getD]; rw [List.getElem?_append_left (by rw [bl_length]; exact h)]
          rw [e]; exact HD.out i h
        · have e : nthU (bl r ++ [B1]) i = B1 := by
            have : i = (bl r).length := by rw [bl_length]; omega
            rw [this]; simp [nthU, List.getD]
          rw [e]; exact hsg1)
      have hsgv : Hid (vals93 (bl (r ++ ⟨#[B1]⟩)) = checked1 (vals93 (bl r))) := Lib.hid (by
        have hbl : bl (r ++ ⟨#[B1]⟩) = bl r ++ [B1] := by rw [bl_append]; rfl
        rw [hbl, vals93_append, checked1, HC1.out]
        show _ ++ [idxU signs93 B1] = _
        rw [hsg2])
      have hsgz : Hid ((r ++ ⟨#[B1]⟩ : ByteArray).size = r.size + 1) := Lib.hid (by rw [ByteArray.size_append']; rfl)
      clear hsg1 hsg2
      have hM1 : Hid (M ++ bits9 code = mods93 ([47] ++ checked1 (vals93 (bl r)))) := Lib.hid (by rw [HMK.out, ← HC.out, checked1, ← List.append_assoc, mods93_append _ [_], mods93_one, HC1.out])
      have hM1l : (M ++ bits9 code).length = 18 + 9 * r.size := by rw [List.length_append, bits9_length, HML.out]; omega
      have hpl : Hid ((M.length : Int) + 9 = ((M ++ bits9 code).length : Int)) := Lib.hid (by rw [List.length_append, bits9_length]; rfl)
      clear HMK HC
      go_wp2_with fail
      generalize r ++ ⟨#[B1]⟩ = r2 at *
      have hr2 : r2.size ≤ 81 := by rw [hsgz.out]; omega
      clear hbs henc1
      refine (sum93_any r2 15 (by omega) (by omega) (by omega) hsgs.out _).mono ?_
      rintro e wb ⟨rfl, rfl⟩
      rw [hsgv.out]
      have hc2 := check93_lt (checked1 (vals93 (bl r))) 15
      generalize hC2 : check93 (checked1 (vals93 (bl r))) 15 = c2 at *
      have HC2 := Lib.hid hC2
      have hm1l : (M ++ bits9 code).length = M.length + 9 := by rw [List.length_append, bits9_length]
      have hroom1 : (M ++ bits9 code).length + 19 ≤ N := by omega
      clear hC2 hM1l hm1l hsgs hsgv hsgz
      generalize M ++ bits9 code = M1 at *
      have hown := hown9
      have hb := hb9
      clear hown9 hb9
      go_wp2_with fail
      refine (enc93_any _).mono ?_
      rintro e w7 ⟨⟨ea, ec, rfl, hse⟩, hb7⟩
      have hb7' := Below.two hb hb7 hb.size
      have hown7 := own_below hown hb7
      obtain ⟨eb, eo, rfl, hce⟩ := hse.getI c2 (by show _ < 48; omega)
      have hcode := nth_le bits93T_le' c2
      clear hb hb7 hown hse
      generalize hC : nth bits93T c2 = code2 at *
      have HCD := Lib.hid hC
      clear hC
      go_wp2_with fail
      refine (append93_any g N N w.heap.size M1 code2 _ hcode _ hown7 hpl.out (by omega) (by omega)).mono ?_
      rintro e w9 ⟨rfl, hown9, hg9⟩
      have hb9 : Below w.heap.size w w9 := hb7'.grown hg9 hb7'.size (fun k hk => by injection hk; omega)
      clear hb7' hown7 hg9 hce hcode

      have hM2 : Hid (M1 ++ bits9 code2 = mods93 ([47] ++ checked2 (vals93 (bl r)))) := Lib.hid (by
        rw [hM1.out, ← HCD.out, ← HC2.out, checked2, ← List.append_assoc, mods93_append _ [_], mods93_one])
      have hpl2 : Hid ((M.length : Int) + 9 + 9 = ((M1 ++ bits9 code2).length : Int)) := Lib.hid (by rw [hpl.out, List.length_append, bits9_length]; rfl)
      have hroom2 : (M1 ++ bits9 code2).length + 10 = N := by have h1 := HML.out; have h2 := HN.out; have h3 := hpl2.out; omega
      clear hM1 HCD HC2 hroom1 hpl
      generalize M1 ++ bits9 code2 = M2 at *
      go_wp2_with fail
      refine (append93_any g N N w.heap.size M2 350 _ (by omega) _ hown9 hpl2.out (by omega) (by omega)).mono ?_
      rintro e wc ⟨rfl, hownc, hgc⟩
      have hbc : Below w.heap.size w wc := hb9.grown hgc hb9.size (fun k hk => by injection hk; omega)
      have hfin : Hid (M2 ++ bits9 350 ++ [true] = row93 (bl r)) := Lib.hid (by
        rw [hM2.out, row93, mods93_append _ [47], mods93_one]; rfl)
      have hlen3 : (M2 ++ bits9 350).length = N - 1 := by rw [List.length_append, bits9_length]; omega
      have hlen4 : (row93 (bl r)).length = N := by rw [← hfin.out, List.length_append, hlen3]; show _ + 1 = N; omega
      have hidx3 : M.length + 9 + 9 + 9 = N - 1 := by have := hpl2.out; omega
      clear hgc hb9 hown9 hM2
      have hc := hownc.cellAt (N - 1) (by omega)
      rw [← hlen3, fillB_get _ _ (by omega), hlen3] at hc
      have hf := hownc.frozenAt (N - 1)
      have st := hownc.stored (N - 1) (.bool true)
      rw [← hlen3, fillB_set _ _ _ (by omega), hfin.out, hlen3, fillB_full _ _ hlen4] at st
      rw [← hidx3] at hc hf st
      have hbd := hbc.grown st.2 hbc.size (fun k hk => by injection hk; omega)
      have hownd := st.1
      have HFIN := Lib.hid hlen4
      clear hidx3
      clear st hownc hbc hlen3 hlen4
      go_wp2
      go_ret2
      exact ⟨⟨_, rfl, by rw [← HR.out, HFIN.out]; exact hownd⟩, hbd⟩
end Go.Proofs.Ytpgddedhhjbgoaa
