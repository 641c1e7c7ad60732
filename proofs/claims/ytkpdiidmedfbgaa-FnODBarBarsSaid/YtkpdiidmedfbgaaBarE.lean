/- Walks: the encoder of Codabar. -/
import Derived.Test.YtkpdiidmedfbgaaBarF
import Derived.Test.YtkpdiidmedfbgaaExc
import Derived.Test.YtkpdiidmedfbgaaElem
namespace Go.Proofs.Ytkpdiidmedfbgaa
open Go.RowKit

theorem end_in {c : UInt8} (h : isEnd c) : c ∈ ([65, 66, 67, 68] : List UInt8) := by
  obtain ⟨h1, h2⟩ := h
  have : c.toNat = 65 ∨ c.toNat = 66 ∨ c.toNat = 67 ∨ c.toNat = 68 := by omega
  have e : ∀ n : Nat, n < 256 → c.toNat = n → c = UInt8.ofNat n := fun n hn hc => by rw [← hc]; simp
  rcases this with h | h | h | h <;> (rw [e _ (by omega) h]; decide)
theorem end_not {c : UInt8} (h : isEnd c) : c ∉ ([84, 78, 42, 69] : List UInt8) := by
  obtain ⟨h1, h2⟩ := h
  intro hm
  simp only [List.mem_cons, List.not_mem_nil, or_false] at hm
  rcases hm with rfl | rfl | rfl | rfl <;> simp at h1 h2
theorem bitz_yes (n k : Nat) (hn : n < 9223372036854775808) (h : ¬ (n >>> k) % 2 = 1) : (bits .and .i64 ((n : Int) / 2 ^ k) 1 == 0) = true := by
  have := shr_le n k
  rw [int_shr, bits_and_one _ (by omega), show (n >>> k) % 2 = 0 by omega]; rfl
theorem bitz_no (n k : Nat) (hn : n < 9223372036854775808) (h : (n >>> k) % 2 = 1) : (bits .and .i64 ((n : Int) / 2 ^ k) 1 == 0) = false := by
  have := shr_le n k
  rw [int_shr, bits_and_one _ (by omega), h]; rfl

theorem barM_mono (ds : List UInt8) (i j : Nat) (h : i ≤ j) : (barM ds i).length ≤ (barM ds j).length := by
  induction j with
  | zero => rw [show i = 0 by omega]; exact Nat.le_refl _
  | succ j ih =>
    by_cases e : i = j + 1
    · rw [e]; exact Nat.le_refl _
    · rw [barM_length]; have := ih (by omega); omega
theorem barEl_bit (c : UInt8) (b : Nat) (hb : b < 7) : nth (barEl c) b = if (nth barBitsT (idxU barSigns c) >>> (6 - b)) % 2 = 1 then 2 else 1 := by
  unfold barEl elements
  rw [nth_eq (by simpa using hb)]
  simp only [List.getElem_map, List.getElem_range]
  rfl

set_option maxHeartbeats 8000000 in
set_option maxRecDepth 100000 in
theorem barEnc_ok (s : ByteArray) (w : World) (h : BarText s) (x : Value) :
    Calls Try.prog 52 #[.agg #[], .string s, x] w fun e w' =>
      (∃ v, e = .returned (.tuple #[v, .nilIface]) ∧ w'.ownsRow w.heap.size 4 1 v (bars (barWidths (bl s))).length ((bars (barWidths (bl s))).map .bool)) ∧ Below w.heap.size w w' := by
  obtain ⟨j0, hj, hy0, hy1, hy2⟩ := info_parts info_bool
  have HBL := Lib.hid (bl_length s)
  have H := Lib.hid h
  have hz1 := h.size1
  have hz2 := h.size2
  have hb0 := bl_get s 0 (by omega)
  have hbn := bl_get s (s.size - 1) (by omega)
  have he0 := h.first
  have hen := h.last
  have hm0 := Lib.hid (end_in he0)
  have hmn := Lib.hid (end_in hen)
  have hx0 := Lib.hid (end_not he0)
  have hxn := Lib.hid (end_not hen)
  clear h
  have HC0 : ∃ c, c = nthU (bl s) 0 := ⟨_, rfl⟩
  obtain ⟨c0, hc0⟩ := HC0
  have HCN : ∃ c, c = nthU (bl s) (s.size - 1) := ⟨_, rfl⟩
  obtain ⟨cn, hcn⟩ := HCN
  rw [← hc0] at hb0 he0 hm0 hx0
  rw [← hcn] at hbn hen hmn hxn
  clear hc0 hcn
  obtain ⟨he1, he2⟩ := he0
  obtain ⟨hn1, hn2⟩ := hen
  go_enter Try.func52, Try.ntmps52
  go_wp2_with fail
  refine (upper_any c0 (by omega) _).mono ?_
  rintro e w1 ⟨rfl, rfl⟩
  go_wp2_with fail
  refine (upper_any cn (by omega) _).mono ?_
  rintro e w1 ⟨rfl, rfl⟩
  have hb1 : Below w.heap.size w (w.alloc (.cells #[] 55)) := below_alloc _ _
  go_wp2_with fail
  refine (startEnd_any _).mono ?_
  rintro e w2 ⟨⟨v2, rfl, hs2⟩, hb2⟩
  have hb2' := Below.two hb1 hb2 hb1.size
  clear hb1 hb2
  go_wp2_with fail
  refine (arrayContains_yes _ c0 hm0.out _ (by decide) _ hs2).mono ?_
  rintro e w3 ⟨rfl, rfl⟩
  clear hs2
  go_wp2_with fail
  refine (startEnd_any _).mono ?_
  rintro e w4 ⟨⟨v4, rfl, hs4⟩, hb4⟩
  have hb4' := Below.two hb2' hb4 hb2'.size
  clear hb2' hb4
  go_wp2_with fail
  refine (arrayContains_yes _ cn hmn.out _ (by decide) _ hs4).mono ?_
  rintro e w5 ⟨rfl, rfl⟩
  clear hs4
  go_wp2_with fail
  refine (altStartEnd_any _).mono ?_
  rintro e w6 ⟨⟨v6, rfl, hs6⟩, hb6⟩
  have hb6' := Below.two hb4' hb6 hb4'.size
  clear hb4' hb6
  go_wp2_with fail
  refine (arrayContains_no _ c0 hx0.out _ (by decide) _ hs6).mono ?_
  rintro e w7 ⟨rfl, rfl⟩
  clear hs6
  go_wp2_with fail
  refine (altStartEnd_any _).mono ?_
  rintro e w8 ⟨⟨v8, rfl, hs8⟩, hb8⟩
  have hb8' := Below.two hb6' hb8 hb6'.size
  clear hb6' hb8
  go_wp2_with fail
  refine (arrayContains_no _ cn hxn.out _ (by decide) _ hs8).mono ?_
  rintro e w9 ⟨rfl, rfl⟩
  clear hs8 hm0 hmn hx0 hxn
  have hS1 : (barM (bl s) 1).length = 11 := by
    rw [barM_length, barSum_end H.out.first]; rfl
  have HS1 := Lib.hid hS1
  clear hS1
  go_wp2
  go_loopw [14, 15] (fun r i wr => ∃ k : Nat, 1 ≤ k ∧ k + 1 ≤ s.size ∧ i = .int .i64 k ∧ (∃ R : Nat, r = .int .i64 R ∧ R + k = (barM (bl s) k).length + 10 ∧ R ≤ 20 + 10 * k) ∧ Below w.heap.size w wr) (fun _ i _ => s.size - (intOf i).toNat)
  case atStart => exact ⟨1, Nat.le_refl _, by omega, rfl, ⟨20, rfl, by rw [HS1.out], by omega⟩, hb8'⟩
  case round =>
    clear hb8' HS1
    obtain ⟨k, hk1, hk2, rfl, ⟨R, rfl, hR, hR2⟩, hb⟩ := hrel
    by_cases hlt : k + 1 < s.size
    · have hks : k < s.size := Nat.lt_of_succ_lt hlt
      have hbyte := bl_get s k hks
      have hmid := H.out.mid k (by omega) hlt
      obtain ⟨_, _, hcls⟩ := mid_facts _ hmid
      have hsum := barSum_mid _ hmid
      have hml := barM_length (bl s) k
      clear hmid
      generalize nthU (bl s) k = c at *
      by_cases h9 : (48 ≤ c.toNat ∧ c.toNat ≤ 57) ∨ c.toNat = 45 ∨ c.toNat = 36
      · rw [if_pos h9] at hsum
        have hR9 : Hid (R + 9 + (k + 1) = (barM (bl s) (k + 1)).length + 10) := Lib.hid (by omega)
        clear hsum hml hcls hR
        rcases h9 with ⟨h1, h2⟩ | h1 | h1
        all_goals
          go_wp2
          go_roundw
          case rel => exact ⟨k + 1, by omega, by omega, by go_num, ⟨R + 9, by go_num, hR9.out, by omega⟩, hb⟩
          case measure => simp [intOf]; omega
      · rw [if_neg h9] at hsum
        have hR9 : Hid (R + 10 + (k + 1) = (barM (bl s) (k + 1)).length + 10) := Lib.hid (by omega)
        have hin : c ∈ ([47, 58, 43, 46] : List UInt8) := by
          have e : ∀ n : Nat, n < 256 → c.toNat = n → c = UInt8.ofNat n := fun n hn hc => by rw [← hc]; simp
          have : c.toNat = 47 ∨ c.toNat = 58 ∨ c.toNat = 43 ∨ c.toNat = 46 := by omega
          rcases this with h | h | h | h <;> (rw [e _ (by omega) h]; decide)
        have hcl : c.toNat = 47 ∨ c.toNat = 58 ∨ c.toNat = 43 ∨ c.toNat = 46 := by omega
        have HIN := Lib.hid hin
        have n1 : c.toNat ≠ 45 := by omega
        have n2 : c.toNat ≠ 36 := by omega
        have n3 : ((c.toNat : Int) == 45) = false := by rw [beq_eq_false_iff_ne]; omega
        have n4 : ((c.toNat : Int) == 36) = false := by rw [beq_eq_false_iff_ne]; omega
        have n5 : ¬ (48 ≤ c.toNat ∧ c.toNat ≤ 57) := by omega
        clear hsum hml hcls hR h9 hin
        by_cases n6 : 58 ≤ c.toNat
        all_goals
          have hk0 : (0 : Int) ≤ k := by omega
          have hks' : (k : Int) < s.size := by omega
          go_wp2
          go_region_with (first | (go_at_call 67; refine (tenLength_any _).mono ?_; rintro e wa ⟨⟨va, rfl, hsa⟩, hba⟩) | (go_at_call 64; refine (arrayContains_yes _ c HIN.out _ (by decide) _ hsa).mono ?_; rintro e wb ⟨rfl, rfl⟩))
          all_goals
            have hbd : Below w.heap.size w wr.drew := hb.drew
            have hba' := Below.two hbd hba hbd.size
            clear hba hb hbd hsa
            go_wp2
            go_roundw
            case rel => exact ⟨k + 1, by omega, by omega, by go_num, ⟨R + 10, by go_num, hR9.out, by omega⟩, hba'⟩
            case measure => simp [intOf]; omega
    · have hkn : k = s.size - 1 := by omega
      have hML := barM_length (bl s) (s.size - 1)
      rw [barSum_end H.out.last] at hML
      have hW : Hid (barWidths (bl s) = barW (bl s) (s.size - 1) ++ barEl (nthU (bl s) (s.size - 1))) := Lib.hid (by rw [barWidths, HBL.out])
      have hfull : bars (barWidths (bl s)) = barM (bl s) (s.size - 1) ++ barsFrom true (barEl (nthU (bl s) (s.size - 1))) := by rw [hW.out, barM_el]
      have hfl : (bars (barWidths (bl s))).length = (barM (bl s) (s.size - 1)).length + 10 := by
        rw [hfull, List.length_append, barsFrom_length]
        have := barSum_end H.out.last
        unfold barSum at this
        omega
      have hN : R + (s.size - 1) = (bars (barWidths (bl s))).length := by rw [hfl]; rw [hkn] at hR; omega
      have HFULL := Lib.hid hfull
      have HNM : Hid ((bars (barWidths (bl s))).length + 1 = (barM (bl s) s.size).length) := Lib.hid (by
        have := hML
        rw [show s.size - 1 + 1 = s.size by omega] at this
        omega)
      clear hML hfull hfl hR hkn
      generalize hNN : (bars (barWidths (bl s))).length = N at *
      have HN := Lib.hid hN
      have HNN := Lib.hid hNN
      have hN1 : N ≤ 1000 := by omega
      clear hNN hN
      have hsz := hb.size
      go_wp2_with (at_make; refine wpList_make_full _ rfl _ _ 24 rfl w.heap.size 4 j0 (.bool false) 1 Try.underlying24 hj hy0 hy1 _ _ _ _ N rfl rfl ?a1 ?a2 ?b1 ?b2 ?b3 ?_)
      case a1 => have := HN.out; omega
      case a2 => have := HN.out; omega
      case b1 => rw [hy2]; omega
      case b2 => unfold maxLen; omega
      case b3 => exact hsz
      intro w2 hown hgrow
      have hb2 : Below w.heap.size w w2 := hb.grown hgrow hsz (fun k hk => by cases hk)
      rw [made_bools] at hown
      obtain ⟨hg1, hg2⟩ := hown.lt _ rfl
      clear hgrow hb
      generalize wr.heap.size = g at *
      have hP0 : Hid (barM (bl s) 0 = []) := Lib.hid rfl
      go_wp2
      go_loopw [17, 18, 19, 20, 21, 22, 23, 24] (fun p i _ _ _ _ _ _ wr => ∃ k : Nat, k ≤ s.size ∧ i = .int .i64 k ∧ (∃ M : List Bool, p = .int .i64 (M.length : Int) ∧ M = (if k = s.size then bars (barWidths (bl s)) else barM (bl s) k) ∧ wr.ownsRow w.heap.size 4 1 (.slice (some ⟨g, 0, none⟩) N N) N (fillB N M)) ∧ Below w.heap.size w wr ∧ g < wr.heap.size) (fun _ i _ _ _ _ _ _ _ => s.size - (intOf i).toNat)
      case atStart => exact ⟨0, Nat.zero_le _, rfl, ⟨[], rfl, by rw [if_neg (by omega)]; rfl, hown⟩, hb2, hg2⟩
      case round =>
        clear hown hb2 hg2
        obtain ⟨k, hk, rfl, ⟨M, rfl, hM, hown⟩, hb, hgr⟩ := hrel
        by_cases hlt : k < s.size
        · rw [if_neg (by omega)] at hM
          have hbyte := bl_get s k hlt
          have hlow := H.out.low k hlt
          have hmem := H.out.mem k hlt
          have hidx := idxU_lt hmem
          rw [show barSigns.length = 20 from rfl] at hidx
          have HGET := Lib.hid (idxU_get hmem)
          have HMIN : Hid (∀ j, j < idxU barSigns (nthU (bl s) k) → nthU barSigns j ≠ nthU (bl s) k) := Lib.hid (fun j hj => idxU_min hj)
          have hends : (k = 0 ∨ k = s.size - 1) → isEnd (nthU (bl s) k) := by
            rintro (h | h)
            · rw [h]; exact H.out.first
            · rw [h]; exact H.out.last
          have hlast : Hid (k + 1 = s.size → M ++ barsFrom true (barEl (nthU (bl s) k)) = bars (barWidths (bl s))) := Lib.hid (fun e => by rw [hM, HFULL.out, show s.size - 1 = k by omega])
          have hmore : Hid (k + 1 < s.size → M ++ barsFrom true (barEl (nthU (bl s) k)) ++ [false] = barM (bl s) (k + 1)) := Lib.hid (fun e => by rw [hM, barM_succ])
          have hroom : M.length + (barEl (nthU (bl s) k)).sum ≤ N := by
            have h1 := barM_mono (bl s) (k + 1) s.size (by omega)
            rw [barM_length, ← hM] at h1
            have h2 := HNM.out
            unfold barSum at h1
            omega
          have hroom2 : Hid (k + 1 < s.size → M.length + (barEl (nthU (bl s) k)).sum + 1 ≤ N) := Lib.hid (fun e => by
            have h1 := barM_mono (bl s) (k + 1 + 1) s.size (by omega)
            rw [barM_length, barM_length, ← hM] at h1
            have h2 := HNM.out
            have h3 : 1 ≤ barSum (nthU (bl s) (k + 1)) := by
              by_cases e2 : k + 1 + 1 = s.size
              · have := H.out.last; rw [show s.size - 1 = k + 1 by omega] at this; rw [barSum_end this]; omega
              · have := barSum_mid _ (H.out.mid (k + 1) (by omega) (by omega)); rw [this]; split <;> omega
            unfold barSum at h1 h3
            omega)
          have hbit : Hid (∀ b, b < 7 → nth (barEl (nthU (bl s) k)) b = if (nth barBitsT (idxU barSigns (nthU (bl s) k)) >>> (6 - b)) % 2 = 1 then 2 else 1) := Lib.hid (fun b hb => barEl_bit _ b hb)
          have hell := barEl_length (nthU (bl s) k)
          have hele := Lib.hid (barEl_le (nthU (bl s) k))
          clear hM
          clear hmem
          generalize nthU (bl s) k = c at *
          generalize barEl c = el at *
          have hcode : nth barBitsT (idxU barSigns c) ≤ 1000 := nth_le (by decide) _
          generalize idxU barSigns c = ix at *
          have hc255 : c.toNat < 97 := hlow
          have hN1z : N ≤ 1000 := hN1
          by_cases hend : k = 0 ∨ k = s.size - 1
          case' neg =>
            have hk0' : ((k : Int) == 0) = false := by rw [beq_eq_false_iff_ne]; omega
            have hk1' : ((k : Int) == (s.size : Int) - 1) = false := by rw [beq_eq_false_iff_ne]; omega
            clear hends
            go_wp2_with fail
            refine (upper_any c hlow _).mono ?_
            rintro e w3 ⟨rfl, rfl⟩
            go_wp2
          case' pos =>
            obtain ⟨hce1, hce2⟩ := hends hend
            have HEND := Lib.hid hend
            clear hends hend
            by_cases hk0 : k = 0
            case' neg =>
              have hk0' : ((k : Int) == 0) = false := by rw [beq_eq_false_iff_ne]; omega
              have hk1' : ((k : Int) == (s.size : Int) - 1) = true := by
                rw [beq_iff_eq]; have := HEND.out; omega
              go_wp2_with fail
              refine (upper_any c hlow _).mono ?_
              rintro e w3 ⟨rfl, rfl⟩
              go_wp2
            case' pos =>
              have hk0' : ((k : Int) == 0) = true := by rw [hk0]; rfl
              have HK0 := Lib.hid hk0
              clear hk0
              go_wp2_with fail
              refine (upper_any c hlow _).mono ?_
              rintro e w3 ⟨rfl, rfl⟩
              go_wp2
          all_goals
            go_loop [20, 21] (fun code i => ∃ j : Nat, j ≤ ix ∧ i = .int .i64 j ∧ code = .int .i64 0) (fun _ i => 20 - (intOf i).toNat)
            case atStart => exact ⟨0, Nat.zero_le _, rfl, rfl⟩
            case round =>
              obtain ⟨j, hjx, rfl, rfl⟩ := hrel
              have hj20 : j < 20 := by omega
              have hj20s : j < (⟨#[48, 49, 50, 51, 52, 53, 54, 55, 56, 57, 45, 36, 58, 47, 46, 43, 65, 66, 67, 68]⟩ : ByteArray).size := hj20
              have hsg : (⟨#[48, 49, 50, 51, 52, 53, 54, 55, 56, 57, 45, 36, 58, 47, 46, 43, 65, 66, 67, 68]⟩ : ByteArray)[j] = nthU barSigns j := bl_get _ j hj20s
              by_cases hjj : j = ix
              case' neg =>
                have hyc := HMIN.out j (by omega)
                generalize nthU barSigns j = y at *
                have hne : ((c.toNat : Int) == (y.toNat : Int)) = false := by
                  rw [beq_eq_false_iff_ne]; intro e; exact hyc (UInt8.toNat.inj (by omega))
                clear hyc
                go_wp2
                go_round
                case rel => exact ⟨j + 1, by omega, by go_num, rfl⟩
                case measure => simp [intOf]; omega
              case' pos =>
                subst hjj
                rw [HGET.out] at hsg
                go_wp2_with fail
                refine (barEnc_any _).mono ?_
                rintro e w4 ⟨⟨ea, ec, rfl, hse⟩, hb4⟩
                have hb4' := Below.two hb hb4 hb.size
                have hown4 := own_below hown hb4
                have hg4 : g < w4.heap.size := by have := hb4.size; omega
                obtain ⟨eb, eo, rfl, hce⟩ := hse.getI j (by show j < 20; omega)
                clear hb hb4 hown hse hsg HGET HMIN
                generalize nth barBitsT j = code at *
                go_wp2
                go_loopw [17, 22, 23, 24] (fun p col cnt b wr => ∃ (n q : Nat) (C : Bool), n ≤ 7 ∧ q ≤ 1 ∧ b = .int .i64 n ∧ cnt = .int .i64 q ∧ col = .bool C ∧ Hid (C = colour true n) ∧ Hid (q = 1 → n < 7 ∧ (code >>> (6 - n)) % 2 = 1) ∧ (∃ X : List Bool, p = .int .i64 (X.length : Int) ∧ Hid (X = M ++ barsFrom true (el.take n) ++ List.replicate q C) ∧ wr.ownsRow w.heap.size 4 1 (.slice (some ⟨g, 0, none⟩) N N) N (fillB N X)) ∧ Below w.heap.size w wr ∧ g < wr.heap.size) (fun _ _ cnt b _ => (15 - 2 * (intOf b).toNat) - (intOf cnt).toNat)
                case atStart => exact ⟨0, 0, true, by omega, by omega, rfl, rfl, rfl, Lib.hid rfl, Lib.hid (fun h => by omega), ⟨M, rfl, Lib.hid (by simp [barsFrom]), hown4⟩, hb4', hg4⟩
                case round =>
                  clear hb4' hown4 hg4 hce
                  obtain ⟨n, q, C, hn7, hq1, rfl, rfl, rfl, hC, hq, ⟨X, rfl, hX, hown⟩, hb, hgr⟩ := hrel
                  by_cases hn : n < 7
                  · have hbn' := hbit.out n hn
                    have hsn := barsFrom_snoc true el n (by omega)
                    rw [← hC.out] at hsn
                    have hss := sum_snoc el n (by omega)
                    have hsl := sum_take_le el (n + 1)
                    have hXl : X.length = M.length + (el.take n).sum + q := by
                      rw [hX.out, List.length_append, List.length_append, barsFrom_length, List.length_replicate]
                    have hq2 := hq.out
                    have hroomX : X.length < N := by
                      rcases (show q = 0 ∨ q = 1 by omega) with h | h
                      · have : 1 ≤ nth el n := by rw [hbn']; split <;> omega
                        omega
                      · have h2 := (hq2 h).2
                        rw [if_pos h2] at hbn'
                        omega
                    have hcx := hown.cellAt X.length (by omega)
                    rw [fillB_get _ _ hroomX] at hcx
                    have hfx := hown.frozenAt X.length
                    have st := hown.stored X.length (.bool C)
                    rw [fillB_set _ _ _ hroomX] at st
                    have hown2 := st.1
                    have hb2 : Below w.heap.size w (wr.setCell ⟨g, X.length, none⟩ (.bool C)) := hb.setCell (by simp; omega) _
                    have hXl1 : Hid (X.length + 1 = (X ++ [C]).length) := Lib.hid (by simp)
                    have hcn : Hid ((!C) = colour true (n + 1)) := Lib.hid (by rw [hC.out, colour_next])
                    have HBN := Lib.hid hbn'
                    have HSN := Lib.hid hsn
                    have HQ2 := Lib.hid hq2
                    have hcode64 : code < 9223372036854775808 := by omega
                    clear st hown hb hss hsl hXl hq2 hbn' hsn hC hq
                    by_cases hbv : (code >>> (6 - n)) % 2 = 1
                    · have hbz := bitz_no code (6 - n) hcode64 hbv
                      have hel2 : Hid (nth el n = 2) := Lib.hid (by rw [HBN.out, if_pos hbv])
                      by_cases hq0 : q = 0
                      · subst hq0
                        have hX2 : Hid (X ++ [C] = M ++ barsFrom true (el.take n) ++ List.replicate 1 C) := Lib.hid (by rw [hX.out]; simp)
                        have HBV := Lib.hid hbv
                        clear hbv
                        go_wp2
                        go_roundw
                        case rel => exact ⟨n, 1, C, by omega, by omega, rfl, rfl, rfl, Lib.hid (by have := hcn.out; rw [colour_next] at this; simpa using this), Lib.hid (fun _ => ⟨hn, HBV.out⟩), ⟨X ++ [C], by rw [← hXl1.out]; go_num, hX2, hown2⟩, hb2, by simp; omega⟩
                        case measure => simp [intOf]; omega
                      · have hq1' : q = 1 := by omega
                        subst hq1'
                        have hX2 : Hid (X ++ [C] = M ++ barsFrom true (el.take (n + 1)) ++ List.replicate 0 (!C)) := Lib.hid (by rw [hX.out, HSN.out, hel2.out]; simp [List.replicate])
                        clear hbv
                        go_wp2
                        go_roundw
                        case rel => exact ⟨n + 1, 0, !C, by omega, by omega, by go_num, rfl, rfl, hcn, Lib.hid (fun h => by omega), ⟨X ++ [C], by rw [← hXl1.out]; go_num, hX2, hown2⟩, hb2, by simp; omega⟩
                        case measure => simp [intOf]; omega
                    · have hbz := bitz_yes code (6 - n) hcode64 hbv
                      have hel2 : Hid (nth el n = 1) := Lib.hid (by rw [HBN.out, if_neg hbv])
                      have hq0 : q = 0 := by
                        rcases (show q = 0 ∨ q = 1 by omega) with h | h
                        · exact h
                        · exact absurd (HQ2.out h).2 hbv
                      subst hq0
                      have hX2 : Hid (X ++ [C] = M ++ barsFrom true (el.take (n + 1)) ++ List.replicate 0 (!C)) := Lib.hid (by rw [hX.out, HSN.out, hel2.out]; simp [List.replicate])
                      clear hbv
                      go_wp2
                      go_roundw
                      case rel => exact ⟨n + 1, 0, !C, by omega, by omega, by go_num, rfl, rfl, hcn, Lib.hid (fun h => by omega), ⟨X ++ [C], by rw [← hXl1.out]; go_num, hX2, hown2⟩, hb2, by simp; omega⟩
                      case measure => simp [intOf]; omega
                  · have hn7' : n = 7 := by omega
                    have hq0 : q = 0 := by
                      rcases (show q = 0 ∨ q = 1 by omega) with h | h
                      · exact h
                      · exact absurd (hq.out h).1 (by omega)
                    have hXM : Hid (X = M ++ barsFrom true el) := Lib.hid (by
                      have := hX.out
                      rw [hq0, List.take_of_length_le (by omega)] at this
                      simpa using this)
                    have hXl : X.length = M.length + el.sum := by rw [hXM.out, List.length_append, barsFrom_length]
                    subst hq0
                    clear hC hq hX
                    by_cases hmore' : k + 1 < s.size
                    · have hXN := hroom2.out hmore'
                      have hroomX : X.length < N := by omega
                      have hcx := hown.cellAt X.length (by omega)
                      rw [fillB_get _ _ hroomX] at hcx
                      have hfx := hown.frozenAt X.length
                      have st := hown.stored X.length (.bool false)
                      rw [fillB_set _ _ _ hroomX] at st
                      have hown2 := st.1
                      have hb2 : Below w.heap.size w (wr.setCell ⟨g, X.length, none⟩ (.bool false)) := hb.setCell (by simp; omega) _
                      have hXl1 : Hid (X.length + 1 = (X ++ [false]).length) := Lib.hid (by simp)
                      have hX2 : Hid (X ++ [false] = if k + 1 = s.size then bars (barWidths (bl s)) else barM (bl s) (k + 1)) := Lib.hid (by
                        rw [if_neg (by omega), ← hmore.out hmore', ← hXM.out])
                      clear st hown hb hXN hXl hn7'
                      go_wp2
                      go_roundw
                      case rel => exact ⟨k + 1, by omega, by go_num, ⟨X ++ [false], by rw [← hXl1.out]; go_num, hX2.out, hown2⟩, hb2, by simp; omega⟩
                      case measure => simp [intOf]; omega
                    · have hX2 : Hid (X = if k + 1 = s.size then bars (barWidths (bl s)) else barM (bl s) (k + 1)) := Lib.hid (by
                        rw [if_pos (by omega), ← hlast.out (by omega), ← hXM.out])
                      clear hXl hn7'
                      go_wp2
                      all_goals
                        go_roundw
                        case rel => exact ⟨k + 1, by omega, by go_num, ⟨X, rfl, hX2.out, hown⟩, hb, hgr⟩
                        case measure => simp [intOf]; omega
        · have hks : k = s.size := by omega
          rw [if_pos hks] at hM
          have hfin : wr.ownsRow w.heap.size 4 1 (.slice (some ⟨g, 0, none⟩) N N) N ((bars (barWidths (bl s))).map .bool) := by
            have := hown
            rw [hM, fillB_full _ _ HNN.out] at this
            exact this
          clear hM hks hown
          go_wp2
          go_ret2
          exact ⟨⟨_, rfl, by rw [HNN.out]; exact hfin⟩, hb⟩
end Go.Proofs.Ytkpdiidmedfbgaa
