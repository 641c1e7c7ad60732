/- Walks: laws.odBar, impl.ODBarBars, laws.FnODBarBars. -/
import Derived.Test.YtkpdiidmedfbgaaBarS
import Derived.Test.YtkpdiidmedfbgaaBarE
import Derived.Test.YtkpdiidmedfbgaaItfB
import Derived.Test.YtkpdiidmedfbgaaSame
namespace Go.Proofs.Ytkpdiidmedfbgaa
open Go.RowKit

theorem str_of_bl {r : ByteArray} {l : List UInt8} (h : bl r = l) : r = ⟨l.toArray⟩ := bl_inj (by rw [h, bl_mk])
theorem ODSome_eq (signs : ByteArray) (hs : 0 < signs.size) (hs2 : signs.size ≤ 100) (cs : List UInt8) (v : Value) (w : World) (most : Nat) (hmost : most ≤ 1000) (h1 : SlAt w v (cs.map B8)) :
    Calls Try.prog 17 #[.string signs, v, .int .i64 most] w fun e w' => e = .returned (.string ⟨(odSome (bl signs) cs most).toArray⟩) ∧ w' = w :=
  (ODSome_any signs hs hs2 cs v w most hmost h1).mono fun _ _ ⟨⟨_, he, hr⟩, hw⟩ => ⟨by rw [he, str_of_bl hr], hw⟩

theorem ODSome_R (signs : ByteArray) (cs : List UInt8) (v : Value) (w : World) (most : Int) (h1 : SlAt w v (cs.map B8)) (hs : 0 < signs.size) (hs2 : signs.size ≤ 100) (h0 : 0 ≤ most) (hmost : most ≤ 1000) :
    Calls Try.prog 17 #[.string signs, v, .int .i64 most] w fun e w' => (∃ r : ByteArray, e = .returned (.string r) ∧ Hid (bl r = odSome (bl signs) cs most.toNat) ∧ r.size ≤ 1000) ∧ w' = w := by
  obtain ⟨m, rfl⟩ := Int.eq_ofNat_of_zero_le h0
  refine (ODSome_any signs hs hs2 cs v w m (by omega) h1).mono fun _ _ ⟨⟨r, he, hr⟩, hw⟩ => ⟨⟨r, he, Lib.hid hr, ?_⟩, hw⟩
  rw [← bl_length, hr, odSome_length]; omega

def sABCD : ByteArray := ⟨#[65, 66, 67, 68]⟩
def sBar16 : ByteArray := ⟨#[48, 49, 50, 51, 52, 53, 54, 55, 56, 57, 45, 36, 58, 47, 46, 43]⟩
/-- The text of Codabar that bytes make. -/
def barText (cs : List UInt8) : List UInt8 := odSome (bl sABCD) (cs.take 1) 1 ++ odSome (bl sBar16) (cs.drop 2) 50 ++ odSome (bl sABCD) ((cs.drop 1).take 1) 1
theorem abcd_end : ∀ k, k < 4 → isEnd (nthU (bl sABCD) k) := by
  intro k hk
  have : k = 0 ∨ k = 1 ∨ k = 2 ∨ k = 3 := by omega
  rcases this with rfl | rfl | rfl | rfl <;> exact ⟨by decide, by decide⟩
theorem bar16_mid : ∀ k, k < 16 → isMid (nthU (bl sBar16) k) := by
  have : ∀ k, k < 16 → nthU (bl sBar16) k ∈ barSigns.take 16 := by decide
  exact this
theorem barText_len (cs : List UInt8) (h : 4 ≤ cs.length) : (barText cs).length = 2 + min 50 (cs.length - 2) := by
  unfold barText
  rw [List.length_append, List.length_append, odSome_length, odSome_length, odSome_length, List.length_take, List.length_drop, List.length_take, List.length_drop]; omega
theorem barText_ok (r : ByteArray) (cs : List UInt8) (h : 4 ≤ cs.length) (hr : bl r = barText cs) : BarText r := by
  have hlen := barText_len cs h
  rw [← hr, bl_length] at hlen
  have h1 : (odSome (bl sABCD) (cs.take 1) 1).length = 1 := by rw [odSome_length, List.length_take]; omega
  have h2 : (odSome (bl sBar16) (cs.drop 2) 50).length = min 50 (cs.length - 2) := by rw [odSome_length, List.length_drop]
  have h3 : (odSome (bl sABCD) ((cs.drop 1).take 1) 1).length = 1 := by rw [odSome_length, List.length_take, List.length_drop]; omega
  have e1 : ∀ (l : List UInt8) (n : Nat), ∀ c ∈ odSome (bl sABCD) l n, isEnd c := by
    intro l n c hc
    obtain ⟨x, _, rfl⟩ := List.mem_map.1 hc
    exact abcd_end _ (Nat.mod_lt _ (by decide))
  have e2 : ∀ (l : List UInt8) (n : Nat), ∀ c ∈ odSome (bl sBar16) l n, isMid c := by
    intro l n c hc
    obtain ⟨x, _, rfl⟩ := List.mem_map.1 hc
    exact bar16_mid _ (Nat.mod_lt _ (by decide))
  have hget : ∀ i, i < r.size → (bl r)[i]? = some (nthU (bl r) i) := by
    intro i hi
    have : i < (bl r).length := by rw [bl_length]; exact hi
    rw [nthU_eq this, List.getElem?_eq_getElem this]
  have memL : ∀ {l : List UInt8} {i : Nat} {x : UInt8}, l[i]? = some x → x ∈ l := fun h => List.mem_of_getElem? h
  refine ⟨by omega, by omega, ?_, ?_, fun i hi1 hi2 => ?_⟩
  · have hg := hget 0 (by omega)
    generalize nthU (bl r) 0 = y at *
    rw [hr, barText, List.append_assoc, List.getElem?_append_left (by omega)] at hg
    exact e1 _ _ _ (memL hg)
  · have hg := hget (r.size - 1) (by omega)
    generalize nthU (bl r) (r.size - 1) = y at *
    rw [hr, barText, List.getElem?_append_right (by rw [List.length_append]; omega)] at hg
    exact e1 _ _ _ (memL hg)
  · have hg := hget i (by omega)
    generalize nthU (bl r) i = y at *
    rw [hr, barText, List.append_assoc, List.getElem?_append_right (by omega), List.getElem?_append_left (by omega)] at hg
    exact e2 _ _ _ (memL hg)

set_option maxHeartbeats 4000000 in
set_option maxRecDepth 100000 in
theorem odBar_any (cs : List UInt8) (v : Value) (w : World) (h1 : SlAt w v (cs.map B8)) (h4 : 4 ≤ cs.length) (hbig : cs.length ≤ 2147483647) :
    Calls Try.prog 14 #[v] w fun e w' => (∃ r : ByteArray, e = .returned (.string r) ∧ bl r = barText cs) ∧ ∃ n, w' = w.drewN n := by
  obtain ⟨a1, c1, rfl, hm1, hcap⟩ := h1.formC
  simp only [List.length_map] at hm1 hcap ⊢
  obtain ⟨b, o, rfl, _⟩ := h1.getU 0 (by omega)
  have s1 := h1.sub 0 1 (by omega) (by simp; omega)
  have s2 := h1.sub 2 cs.length (by omega) (by simp)
  have s3 := h1.sub 1 2 (by omega) (by simp; omega)
  rw [← List.map_drop, ← List.map_take] at s1 s2 s3
  rw [List.take_of_length_le (by rw [List.length_drop]; omega)] at s2
  simp only [List.drop_zero, Nat.add_zero, Nat.sub_zero] at s1 s2 s3
  have S1 : Hid (SlAt w.drew _ _) := Lib.hid (s1.drewN 1)
  have S2 : Hid (SlAt w.drew _ _) := Lib.hid (s2.drewN 1)
  have S3 : Hid (SlAt w.drew _ _) := Lib.hid (s3.drewN 1)
  clear s1 s2 s3 h1
  have hc1 : (1 : Int) ≤ c1 := by omega
  have hc2 : (2 : Int) ≤ cs.length := by omega
  have hc3 : (2 : Int) ≤ c1 := by omega
  have hc4 : (cs.length : Int) ≤ c1 := by omega
  have hc5 : ¬ c1 = 2 := by omega
  have hc6 : ¬ c1 = 1 := by omega
  have hc7 : ¬ c1 = 0 := by omega
  go_enter Try.func14, Try.ntmps14
  go_wp2_with fail
  go_region_with (go_at_call 17; first | ((with_reducible refine (ODSome_R _ _ _ _ _ S1.out (by decide) (by decide) (by decide) (by decide)).mono ?_); rintro e w' ⟨⟨r1, rfl, hr1, hz1⟩, rfl⟩) | ((with_reducible refine (ODSome_R _ _ _ _ _ S2.out (by decide) (by decide) (by decide) (by decide)).mono ?_); rintro e w' ⟨⟨r2, rfl, hr2, hz2⟩, rfl⟩) | ((with_reducible refine (ODSome_R _ _ _ _ _ S3.out (by decide) (by decide) (by decide) (by decide)).mono ?_); rintro e w' ⟨⟨r3, rfl, hr3, hz3⟩, rfl⟩))
  all_goals
    go_wp2
    go_ret
    refine ⟨⟨_, rfl, ?_⟩, 1, rfl⟩
    rw [bl_append, bl_append, hr1.out, hr2.out, hr3.out]
    rfl

set_option maxHeartbeats 1000000 in
set_option maxRecDepth 100000 in
theorem ODBarBars_ok (s : ByteArray) (w : World) (h : BarText s) :
    Calls Try.prog 15 #[.string s] w fun e w' => (∃ v, e = .returned (.tuple #[v, .bool true]) ∧ w'.ownsRow w.heap.size 4 1 v (bars (barWidths (bl s))).length ((bars (barWidths (bl s))).map .bool)) ∧ Below w.heap.size w w' := by
  have H := Lib.hid h
  have hl := bars_length_le (barWidths (bl s)) 20 (barWidths_le _)
  have hz1 := h.size1
  have hz2 := h.size2
  rw [barWidths_length _ (by rw [bl_length]; omega), bl_length] at hl
  have hp : 0 < (bars (barWidths (bl s))).length := by
    unfold bars
    rw [barsFrom_length, barWidths, List.sum_append]
    have := barSum_end h.last
    unfold barSum at this
    rw [bl_length]; omega
  clear h
  go_enter Try.func15, Try.ntmps15
  go_wp2_with (first | (go_at_call 52; refine (barEnc_ok s _ H.out _).mono ?_; rintro e w1 ⟨⟨v, rfl, hown⟩, hb1⟩) | (go_at_call 29; refine (drawn_ok _ _ _ _ hown (by omega) hp).mono ?_; rintro e w2 ⟨⟨v2, rfl, hown2⟩, hb2⟩) | go_in)
  go_ret2
  have hb3 : Below w.heap.size w w1 := Below.two (by go_grown) hb1 (by simp <;> omega)
  exact ⟨⟨_, rfl, own_mono hown2 hb3.size⟩, Below.two hb3 hb2 hb3.size⟩

set_option maxHeartbeats 4000000 in
set_option maxRecDepth 100000 in
theorem lawBarBars (cs : List UInt8) (v : Value) (w : World) (h1 : SlAt w v (cs.map B8)) :
    Calls Try.prog 4 #[v] w fun e w' => e = .returned (.bool true) ∧ Below w.heap.size w w' := by
  obtain ⟨a1, c1, rfl, hm1⟩ := h1.form
  simp only [List.length_map] at hm1 ⊢
  have H1 := Lib.hid h1
  clear h1
  by_cases hbig : cs.length > 2147483647
  · go_enter Try.func4, Try.ntmps4
    go_wp2
    go_ret
    exact ⟨rfl, Below.refl _ _⟩
  · by_cases h4 : cs.length < 4
    · go_enter Try.func4, Try.ntmps4
      go_wp2
      go_ret
      exact ⟨rfl, Below.refl _ _⟩
    · go_enter Try.func4, Try.ntmps4
      go_wp2_with fail
      refine (odBar_any cs _ _ (by simpa using H1.out) (by omega) (by omega)).mono ?_
      rintro e w1 ⟨⟨r, rfl, hr⟩, n, rfl⟩
      have hT := barText_ok r cs (by omega) hr
      have HT := Lib.hid hT
      have hz1 := hT.size1
      have hz2 := hT.size2
      have hemp : r.toList.isEmpty = false := by
        rw [ByteArray.toList_eq, List.isEmpty_eq_false_iff, ← List.length_pos_iff]; show 0 < (bl r).length; rw [bl_length]; omega
      clear hT hr
      have hb1 : Below w.heap.size w (w.drewN n) := below_drewN' (Below.refl _ _) n
      go_wp2_with fail
      refine (ODBarBars_ok r _ HT.out).mono ?_
      rintro e w2 ⟨⟨v2, rfl, hown2⟩, hb2⟩
      have hb2' := Below.two hb1 hb2 hb1.size
      have hs2 := SlAt.of_own hown2
      clear hb1 hb2 hown2
      go_wp2_with fail
      refine (ODBar_any r _ (by omega) (by omega) (fun i hi => HT.out.mem i hi)).mono ?_
      rintro e w3 ⟨v3, rfl, hown3, hb3⟩
      have hs3 := SlAt.of_own hown3
      have hs23 := hs2.below' hb3
      have hb3' := Below.two hb2' hb3 hb2'.size
      clear hb3 hs2 hb2' hown3
      go_wp2_with fail
      refine (ODSame_any _ _ _ _ _ hs23 hs3).mono ?_
      rintro e w4 ⟨rfl, m, rfl⟩
      have hb4 := below_drewN' hb3' m
      simp only [decide_true]
      clear hs23 hs3 hb3'
      go_wp2
      go_ret
      exact ⟨rfl, hb4⟩
end Go.Proofs.Ytkpdiidmedfbgaa
