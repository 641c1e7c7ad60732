/- Walks: spec.ODChecked of UPC-E. -/
import Derived.Test.YtpgddedhhjbgoaaDoorUpcW
namespace Go.Proofs.YtpgddedhhjbgoaaDoor
open Go.RowKit

theorem nthU_mem' {l : List UInt8} {k : Nat} (h : k < l.length) : nthU l k ∈ l := by rw [nthU_eq h]; exact List.getElem_mem h
theorem wideE_mem (ds : List UInt8) : ∀ x ∈ wideE ds, x ∈ ds ∨ x = 48 := by
  intro x hx
  have t1 : ∀ n, x ∈ ds.take n → x ∈ ds := fun n h => List.mem_of_mem_take h
  have t2 : ∀ n, x ∈ (ds.drop 1).take n → x ∈ ds := fun n h => List.mem_of_mem_drop (List.mem_of_mem_take h)
  have t3 : ∀ n, x ∈ (ds.drop 1).drop n → x ∈ ds := fun n h => List.mem_of_mem_drop (List.mem_of_mem_drop h)
  have t4 : ∀ n, x ∈ ((ds.drop 1).take 5).drop n → x ∈ ds := fun n h => List.mem_of_mem_drop (List.mem_of_mem_take (List.mem_of_mem_drop h))
  have t5 : x ∈ [(48 : UInt8), 48, 48, 48] → x = 48 := fun h => by simpa using h
  have t6 : x ∈ [(48 : UInt8), 48, 48, 48, 48] → x = 48 := fun h => by simpa using h
  unfold wideE at hx
  simp only at hx
  split at hx
  · rcases List.mem_append.1 hx with hx | hx
    · rcases List.mem_append.1 hx with hx | hx
      · rcases List.mem_append.1 hx with hx | hx
        · rcases List.mem_append.1 hx with hx | hx
          · exact .inl (t1 _ hx)
          · exact .inl (t2 _ hx)
        · exact .inl (t3 _ hx)
      · exact .inr (t5 hx)
    · exact .inl (t4 _ hx)
  · split at hx
    · rcases List.mem_append.1 hx with hx | hx
      · rcases List.mem_append.1 hx with hx | hx
        · rcases List.mem_append.1 hx with hx | hx
          · exact .inl (t1 _ hx)
          · exact .inl (t2 _ hx)
        · exact .inr (t6 hx)
      · exact .inl (t4 _ hx)
    · split at hx
      · rcases List.mem_append.1 hx with hx | hx
        · rcases List.mem_append.1 hx with hx | hx
          · rcases List.mem_append.1 hx with hx | hx
            · exact .inl (t1 _ hx)
            · exact .inl (t2 _ hx)
          · exact .inr (t6 hx)
        · exact .inl (t4 _ hx)
      · rcases List.mem_append.1 hx with hx | hx
        · rcases List.mem_append.1 hx with hx | hx
          · rcases List.mem_append.1 hx with hx | hx
            · exact .inl (t1 _ hx)
            · exact .inl (t2 _ hx)
          · exact .inr (t5 hx)
        · exact .inl (t3 _ hx)
theorem wideE_length (ds : List UInt8) (h : ds.length = 7) : (wideE ds).length = 11 := by
  unfold wideE
  simp only
  split
  · simp [h]
  · split
    · simp [h]
    · split <;> simp [h]
theorem wide_dig {r : ByteArray} {ds : List UInt8} (hr : bl r = wideE ds) (hd : ∀ x ∈ ds, isDig x) : allDig r := fun i hi => by
  have hm : nthU (bl r) i ∈ bl r := nthU_mem' (by rw [bl_length]; exact hi)
  generalize nthU (bl r) i = x at *
  rw [hr] at hm
  rcases wideE_mem ds x hm with h | h
  · exact hd x h
  · rw [h]; decide

/-- The check digit's byte of seven digits of UPC-E. -/
def chkE (ds : List UInt8) : UInt8 := chkB (wideE ds)
/-- A text that has seven digits of UPC-E, or eight with the right check digit. -/
def okE (s : ByteArray) : Prop := allDig s ∧ (s.size = 7 ∨ (s.size = 8 ∧ nthU (bl s) 7 = chkE ((bl s).take 7))) ∧ (nthU (bl s) 0).toNat ≤ 49
instance (s : ByteArray) : Decidable (okE s) := inferInstanceAs (Decidable (_ ∧ _))
def withChkE (s : ByteArray) : List UInt8 := (bl s).take 7 ++ [chkE ((bl s).take 7)]

set_option maxHeartbeats 4000000 in
set_option maxRecDepth 100000 in
theorem ODCheckedE_any (s : ByteArray) (hs : s.size ≤ 2147483647) (w : World) :
    Calls Tryd.prog 6 #[.int .i64 15, .string s] w fun e w' => (∃ r : ByteArray, e = .returned (.tuple #[.string r, .bool (decide (okE s))]) ∧ (okE s → bl r = withChkE s)) ∧ ∃ n, w' = w.drewN n := by
  by_cases hD : (allDig s ∧ (s.size = 7 ∨ s.size = 8)) ∧ (nthU (bl s) 0).toNat ≤ 49
  · obtain ⟨⟨hd, hsz⟩, h0⟩ := hD
    obtain ⟨X, hXd⟩ : ∃ X, s.extract 0 7 = X := ⟨_, rfl⟩
    have hX : bl X = (bl s).take 7 := by rw [← hXd, bl_extract]; rfl
    have hXl : X.size = 7 := by rw [← hXd, ByteArray.size_extract]; omega
    have hXdig : allDig X := fun i hi => by rw [hX, nthU_takeD _ _ _ (by omega)]; exact hd i (by omega)
    have hXmem : ∀ x ∈ (bl s).take 7, isDig x := fun x hx => by
      obtain ⟨i, hi, rfl⟩ := List.mem_iff_getElem.1 hx
      have hi' : i < X.size := by rw [← bl_length, hX]; exact hi
      have := hXdig i hi'
      rw [hX, nthU_eq hi] at this
      exact this
    have HXD := Lib.hid hXdig
    have HXM := Lib.hid hXmem
    have HX := Lib.hid hX
    have HXL : Hid (((bl s).take 7).length = 7) := Lib.hid (by rw [← hX, bl_length]; exact hXl)
    have hg0 := bl_get s 0 (by omega)
    have HD := Lib.hid hd
    have h00 : (nthU (bl s) 0).toNat ≤ 49 := h0
    rcases hsz with hsz | hsz
    · have h1 : Hid (decide (s.size = 7 ∧ allDig s) = true) := Lib.hid (decide_eq_true ⟨hsz, hd⟩)
      have h2 : Hid (decide (okE s) = true) := Lib.hid (decide_eq_true ⟨hd, .inl hsz, h0⟩)
      rw [h2.out]
      clear hd hX hXdig hXmem h0
      generalize nthU (bl s) 0 = c0 at *
      go_enter Tryd.func6, Tryd.ntmps6
      go_wp2_with fail
      refine (ODDigits_any s _ (by decide) _).mono ?_
      rintro e w1 ⟨rfl, rfl⟩
      rw [h1.out]
      go_wp2_with fail
      refine (ODCheck_any X (by omega) HXD.out _).mono ?_
      rintro e w2 ⟨rfl, rfl⟩
      generalize chkB (bl X) = B0 at *
      go_wp2_with fail
      refine (ODWide_any X hXl HXD.out _).mono ?_
      rintro e w3 ⟨⟨q, rfl, hq⟩, n3, rfl⟩
      rw [HX.out] at hq
      have HQD := Lib.hid (wide_dig hq HXM.out)
      have hql : q.size = 11 := by rw [← bl_length, hq]; exact wideE_length _ HXL.out
      have HQ : Hid (chkB (bl q) = chkE ((bl s).take 7)) := Lib.hid (by rw [hq]; rfl)
      clear hq
      go_wp2_with fail
      refine (ODCheck_any q (by omega) HQD.out _).mono ?_
      rintro e w4 ⟨rfl, rfl⟩
      rw [HQ.out]
      have HR : Hid (bl (X ++ ⟨#[chkE ((bl s).take 7)]⟩) = withChkE s) := Lib.hid (by rw [bl_append, HX.out]; rfl)
      generalize chkE ((bl s).take 7) = B at *
      go_wp2_with fail
      go_region
      go_wp2
      go_ret2
      exact ⟨⟨_, rfl, fun _ => HR.out⟩, n3 + 1, by simp⟩
    · have h1 : Hid (decide (s.size = 7 ∧ allDig s) = false) := Lib.hid (decide_eq_false (fun h => by omega))
      have h2 : Hid (decide (s.size = 8 ∧ allDig s) = true) := Lib.hid (decide_eq_true ⟨hsz, hd⟩)
      have hone := one_extract s 7 (chkE ((bl s).take 7)) (by omega)
      have h3 : (nthU (bl s) 7 == chkE ((bl s).take 7)) = decide (okE s) := by
        by_cases h : nthU (bl s) 7 = chkE ((bl s).take 7)
        · rw [decide_eq_true (show okE s from ⟨hd, .inr ⟨hsz, h⟩, h0⟩)]; simpa using h
        · rw [decide_eq_false (show ¬ okE s from fun h' => by rcases h'.2.1 with h'' | h''; omega; exact h h''.2)]; simpa using h
      rw [h3] at hone
      simp only [Nat.reduceAdd] at hone
      generalize decide (okE s) = OK at *
      clear hd hX hXdig hXmem h0 h3
      generalize nthU (bl s) 0 = c0 at *
      go_enter Tryd.func6, Tryd.ntmps6
      go_wp2_with fail
      refine (ODDigits_any s _ (by decide) _).mono ?_
      rintro e w1 ⟨rfl, rfl⟩
      rw [h1.out]
      go_wp2_with fail
      refine (ODDigits_any s _ (by decide) _).mono ?_
      rintro e w5 ⟨rfl, rfl⟩
      rw [h2.out]
      go_wp2_with fail
      refine (ODCheck_any X (by omega) HXD.out _).mono ?_
      rintro e w2 ⟨rfl, rfl⟩
      generalize chkB (bl X) = B0 at *
      go_wp2_with fail
      refine (ODWide_any X hXl HXD.out _).mono ?_
      rintro e w3 ⟨⟨q, rfl, hq⟩, n3, rfl⟩
      rw [HX.out] at hq
      have HQD := Lib.hid (wide_dig hq HXM.out)
      have hql : q.size = 11 := by rw [← bl_length, hq]; exact wideE_length _ HXL.out
      have HQ : Hid (chkB (bl q) = chkE ((bl s).take 7)) := Lib.hid (by rw [hq]; rfl)
      clear hq
      go_wp2_with fail
      refine (ODCheck_any q (by omega) HQD.out _).mono ?_
      rintro e w4 ⟨rfl, rfl⟩
      rw [HQ.out]
      have HR : Hid (bl (X ++ ⟨#[chkE ((bl s).take 7)]⟩) = withChkE s) := Lib.hid (by rw [bl_append, HX.out]; rfl)
      generalize chkE ((bl s).take 7) = B at *
      cases OK
      all_goals
        go_wp2_with fail
        go_region
        go_wp2
        go_ret2
        exact ⟨⟨_, rfl, fun _ => HR.out⟩, n3 + 1, by simp⟩
  · have hno : ¬ okE s := fun h => hD ⟨⟨h.1, by rcases h.2.1 with h' | h'; exact .inl h'; exact .inr h'.1⟩, h.2.2⟩
    have h3 : Hid (decide (okE s) = false) := Lib.hid (decide_eq_false hno)
    have HNO := Lib.hid hno
    rw [h3.out]
    by_cases hdd : allDig s ∧ (s.size = 7 ∨ s.size = 8)
    · have h0 : ¬ (nthU (bl s) 0).toNat ≤ 49 := fun h => hD ⟨hdd, h⟩
      obtain ⟨hd, hsz⟩ := hdd
      have hg0 := bl_get s 0 (by omega)
      have hc255 : (nthU (bl s) 0).toNat ≤ 255 := by have := (nthU (bl s) 0).toNat_lt; omega
      clear hD hno
      generalize nthU (bl s) 0 = c0 at *
      rcases hsz with hsz | hsz
      · have h1 : Hid (decide (s.size = 7 ∧ allDig s) = true) := Lib.hid (decide_eq_true ⟨hsz, hd⟩)
        clear hd
        go_enter Tryd.func6, Tryd.ntmps6
        go_wp2_with fail
        refine (ODDigits_any s _ (by decide) _).mono ?_
        rintro e w1 ⟨rfl, rfl⟩
        rw [h1.out]
        go_wp2
        go_ret2
        exact ⟨⟨_, rfl, fun h => absurd h HNO.out⟩, 0, rfl⟩
      · have h1 : Hid (decide (s.size = 7 ∧ allDig s) = false) := Lib.hid (decide_eq_false (fun h => by omega))
        have h2 : Hid (decide (s.size = 8 ∧ allDig s) = true) := Lib.hid (decide_eq_true ⟨hsz, hd⟩)
        clear hd
        go_enter Tryd.func6, Tryd.ntmps6
        go_wp2_with fail
        refine (ODDigits_any s _ (by decide) _).mono ?_
        rintro e w1 ⟨rfl, rfl⟩
        rw [h1.out]
        go_wp2_with fail
        refine (ODDigits_any s _ (by decide) _).mono ?_
        rintro e w5 ⟨rfl, rfl⟩
        rw [h2.out]
        go_wp2
        go_ret2
        exact ⟨⟨_, rfl, fun h => absurd h HNO.out⟩, 0, rfl⟩
    · have h1 : Hid (decide (s.size = 7 ∧ allDig s) = false) := Lib.hid (decide_eq_false (fun h => hdd ⟨h.2, .inl h.1⟩))
      have h2 : Hid (decide (s.size = 8 ∧ allDig s) = false) := Lib.hid (decide_eq_false (fun h => hdd ⟨h.2, .inr h.1⟩))
      clear hD hno hdd
      go_enter Tryd.func6, Tryd.ntmps6
      go_wp2_with fail
      refine (ODDigits_any s _ (by decide) _).mono ?_
      rintro e w1 ⟨rfl, rfl⟩
      rw [h1.out]
      go_wp2_with fail
      refine (ODDigits_any s _ (by decide) _).mono ?_
      rintro e w5 ⟨rfl, rfl⟩
      rw [h2.out]
      go_wp2
      go_ret2
      exact ⟨⟨_, rfl, fun h => absurd h HNO.out⟩, 0, rfl⟩
end Go.Proofs.YtpgddedhhjbgoaaDoor
