/- Walks: spec.ODChecked of EAN-8, EAN-13 and UPC-A. -/
import Derived.Test.YtpgddedhhjbgoaaDoorEanD
import Derived.Test.YtpgddedhhjbgoaaDoorIdx
namespace Go.Proofs.YtpgddedhhjbgoaaDoor
open Go.RowKit

/-- A text that has as many digits as the format without the check digit, or with the right one. -/
def okEan (s : ByteArray) (many : Nat) : Prop := allDig s ∧ (s.size = many ∨ (s.size = many + 1 ∧ nthU (bl s) many = chkB ((bl s).take many)))
instance (s : ByteArray) (many : Nat) : Decidable (okEan s many) := inferInstanceAs (Decidable (_ ∧ _))
/-- Its digits with the check digit. -/
def withChk (s : ByteArray) (many : Nat) : List UInt8 := (bl s).take many ++ [chkB ((bl s).take many)]
theorem nthU_takeD (l : List UInt8) (n k : Nat) (h : k < n) : nthU (l.take n) k = nthU l k := by
  simp [nthU, List.getD, List.getElem?_take, h]

set_option maxHeartbeats 4000000 in
set_option maxRecDepth 100000 in
theorem ODChecked_any (f many : Nat) (hf : (f = 6 ∧ many = 7) ∨ (f = 7 ∧ many = 12) ∨ (f = 14 ∧ many = 11)) (s : ByteArray) (hs : s.size ≤ 2147483647) (w : World) :
    Calls Tryd.prog 6 #[.int .i64 f, .string s] w fun e w' => (∃ r : ByteArray, e = .returned (.tuple #[.string r, .bool (decide (okEan s many))]) ∧ (okEan s many → bl r = withChk s many)) ∧ ∃ n, w' = w.drewN n := by
  by_cases hD : allDig s ∧ (s.size = many ∨ s.size = many + 1)
  · obtain ⟨hd, hsz⟩ := hD
    have hX : bl (s.extract 0 many) = (bl s).take many := by rw [bl_extract]; rfl
    have hXl : (s.extract 0 many).size = many := by rw [ByteArray.size_extract]; omega
    have HXD : Hid (allDig (s.extract 0 many)) := Lib.hid (fun i hi => by
      rw [hX, nthU_takeD _ _ _ (by omega)]; exact hd i (by omega))
    have HB : Hid (chkB (bl (s.extract 0 many)) = chkB ((bl s).take many)) := Lib.hid (by rw [hX])
    have HR : Hid (bl (s.extract 0 many ++ ⟨#[chkB ((bl s).take many)]⟩) = withChk s many) := Lib.hid (by rw [bl_append, hX]; rfl)
    rcases hsz with hsz | hsz
    · have h1 : Hid (decide (s.size = many ∧ allDig s) = true) := Lib.hid (decide_eq_true ⟨hsz, hd⟩)
      have h2 : Hid (decide (okEan s many) = true) := Lib.hid (decide_eq_true ⟨hd, .inl hsz⟩)
      have heq : ((s.size : Int) == (many : Int)) = true := by rw [hsz]; simp
      rw [h2.out]
      clear hd hX
      rcases hf with ⟨rfl, rfl⟩ | ⟨rfl, rfl⟩ | ⟨rfl, rfl⟩
      all_goals
        go_enter Tryd.func6, Tryd.ntmps6
        go_wp2_with fail
        refine (ODDigits_any s _ (by decide) _).mono ?_
        rintro e w1 ⟨rfl, rfl⟩
        rw [h1.out]
        go_wp2_with fail
        refine (ODCheck_any _ (by omega) HXD.out _).mono ?_
        rintro e w2 ⟨rfl, rfl⟩
        rw [HB.out]
        generalize chkB ((bl s).take _) = B at *
        go_wp2_with fail
        go_region
        go_wp2
        go_ret2
        exact ⟨⟨_, rfl, fun _ => HR.out⟩, 1, rfl⟩
    · have h1 : Hid (decide (s.size = many ∧ allDig s) = false) := Lib.hid (decide_eq_false (fun h => by omega))
      have h2 : Hid (decide (s.size = many + 1 ∧ allDig s) = true) := Lib.hid (decide_eq_true ⟨hsz, hd⟩)
      have heq : ((s.size : Int) == (many : Int)) = false := by rw [beq_eq_false_iff_ne]; omega
      have hone := one_extract s many (chkB ((bl s).take many)) (by omega)
      have h3 : (nthU (bl s) many == chkB ((bl s).take many)) = decide (okEan s many) := by
        by_cases h : nthU (bl s) many = chkB ((bl s).take many)
        · rw [decide_eq_true (show okEan s many from ⟨hd, .inr ⟨hsz, h⟩⟩)]; simpa using h
        · rw [decide_eq_false (show ¬ okEan s many from fun h' => by rcases h'.2 with h'' | h''; omega; exact h h''.2)]; simpa using h
      rw [h3] at hone
      generalize decide (okEan s many) = OK at *
      clear hd hX h3
      rcases hf with ⟨rfl, rfl⟩ | ⟨rfl, rfl⟩ | ⟨rfl, rfl⟩
      all_goals
        simp only [Nat.reduceAdd] at hone h2 hsz
        go_enter Tryd.func6, Tryd.ntmps6
        go_wp2_with fail
        refine (ODDigits_any s _ (by decide) _).mono ?_
        rintro e w1 ⟨rfl, rfl⟩
        rw [h1.out]
        go_wp2_with fail
        refine (ODDigits_any s _ (by decide) _).mono ?_
        rintro e w3 ⟨rfl, rfl⟩
        rw [h2.out]
        go_wp2_with fail
        refine (ODCheck_any _ (by omega) HXD.out _).mono ?_
        rintro e w2 ⟨rfl, rfl⟩
        rw [HB.out]
        generalize chkB ((bl s).take _) = B at *
        cases OK
        all_goals
          go_wp2_with fail
          go_region
          go_wp2
          go_ret2
          exact ⟨⟨_, rfl, fun _ => HR.out⟩, 1, rfl⟩
  · have h1 : Hid (decide (s.size = many ∧ allDig s) = false) := Lib.hid (decide_eq_false (fun h => hD ⟨h.2, .inl h.1⟩))
    have h2 : Hid (decide (s.size = many + 1 ∧ allDig s) = false) := Lib.hid (decide_eq_false (fun h => hD ⟨h.2, .inr h.1⟩))
    have hno : ¬ okEan s many := fun h => hD ⟨h.1, by rcases h.2 with h | h; exact .inl h; exact .inr h.1⟩
    have h3 : Hid (decide (okEan s many) = false) := Lib.hid (decide_eq_false hno)
    have HNO := Lib.hid hno
    rw [h3.out]
    clear hD hno
    rcases hf with ⟨rfl, rfl⟩ | ⟨rfl, rfl⟩ | ⟨rfl, rfl⟩
    all_goals
      simp only [Nat.reduceAdd] at h2
      go_enter Tryd.func6, Tryd.ntmps6
      go_wp2_with fail
      refine (ODDigits_any s _ (by decide) _).mono ?_
      rintro e w1 ⟨rfl, rfl⟩
      rw [h1.out]
      go_wp2_with fail
      refine (ODDigits_any s _ (by decide) _).mono ?_
      rintro e w3 ⟨rfl, rfl⟩
      rw [h2.out]
      go_wp2
      go_ret2
      exact ⟨⟨_, rfl, fun h => absurd h HNO.out⟩, 0, rfl⟩
end Go.Proofs.YtpgddedhhjbgoaaDoor
