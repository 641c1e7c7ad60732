/- Walks: impl.ODUpcEBars, laws.FnODUpcEBars. -/
import Derived.Test.YtpgddedhhjbgoaaDoorUpcE
import Derived.Test.YtpgddedhhjbgoaaDoorDrawn
import Derived.Test.YtpgddedhhjbgoaaDoorSame
namespace Go.Proofs.YtpgddedhhjbgoaaDoor
open Go.RowKit

theorem chkE_dig (ds : List UInt8) : isDig (chkE ds) := chkB_dig _
theorem withChkE_facts {s : ByteArray} (h : okE s) : (withChkE s).length = 8 ∧ (∀ i, i < 8 → isDig (nthU (withChkE s) i)) ∧ (nthU (withChkE s) 0).toNat ≤ 49 ∧ nthU (withChkE s) 7 = chkE ((withChkE s).take 7) := by
  have hsz : 7 ≤ s.size := by rcases h.2.1 with h' | h' <;> omega
  have hl : ((bl s).take 7).length = 7 := by rw [List.length_take, bl_length]; omega
  have e1 : ∀ i, i < 7 → nthU (withChkE s) i = nthU (bl s) i := fun i hlt => by
    rw [withChkE, nthU, List.getD, List.getElem?_append_left (by rw [hl]; exact hlt), List.getElem?_take, if_pos hlt]; rfl
  have e2 : nthU (withChkE s) 7 = chkE ((bl s).take 7) := by
    rw [withChkE, nthU, List.getD, List.getElem?_append_right (by omega), hl]; rfl
  refine ⟨by rw [withChkE, List.length_append, hl]; rfl, fun i hi => ?_, by rw [e1 0 (by omega)]; exact h.2.2, ?_⟩
  · by_cases hlt : i < 7
    · rw [e1 i hlt]; exact h.1 i (by omega)
    · rw [show i = 7 by omega, e2]; exact chkE_dig _
  · rw [e2, show (withChkE s).take 7 = (bl s).take 7 by rw [withChkE, List.take_left' hl]]

theorem rowE8_length {r : ByteArray} (hr8 : r.size = 8) (hd : allDig r) : (rowE8 r).length = 51 := by
  have hx : (bl r).extract 1 7 = ((bl r).take 7).drop 1 := by rw [List.extract_eq_take_drop, List.drop_take]
  have hln : ∀ k, k < 6 → nthU ((bl r).extract 1 7) k = nthU (bl r) (1 + k) := fun k hk => by
    rw [hx]; simp only [nthU, List.getD, List.getElem?_drop, List.getElem?_take]; rw [if_pos (by omega)]
  rw [rowE8, rowE, List.length_append, eanL_length _ _ 6 (fun k hk => by rw [hln k hk]; exact hd (1 + k) (by omega))]
  rfl

set_option maxHeartbeats 1000000 in
set_option maxRecDepth 100000 in
theorem ODUpcEBars_ok (r : ByteArray) (w : World) (hr8 : r.size = 8) (hd : allDig r) (h49 : (nthU (bl r) 0).toNat ≤ 49) (hlast : nthU (bl r) 7 = chkE ((bl r).take 7)) :
    Calls Tryd.prog 11 #[.string r] w fun e w' => (∃ v, e = .returned (.tuple #[v, .bool true]) ∧ w'.ownsRow w.heap.size 4 1 v 51 ((rowE8 r).map .bool)) ∧ Below w.heap.size w w' := by
  have HL := Lib.hid (rowE8_length hr8 hd)
  have HD := Lib.hid hd
  have H49 := Lib.hid h49
  have HLAST := Lib.hid hlast
  clear hd h49 hlast
  go_enter Tryd.func11, Tryd.ntmps11
  go_wp2_with (first | (go_at_call 29; refine (encE_ok r _ hr8 HD.out H49.out HLAST.out _).mono ?_; rintro e w1 ⟨⟨v, rfl, hown⟩, hb1⟩) | (go_at_call 15; refine (drawn_ok _ (rowE8 r) _ _ (by rw [HL.out]; exact hown) (by rw [HL.out]; omega) (by rw [HL.out]; omega)).mono ?_; rintro e w2 ⟨⟨v2, rfl, hown2⟩, hb2⟩) | go_in)
  rw [HL.out] at hown2
  go_ret2
  have hb3 : Below w.heap.size w w1 := Below.two (by go_grown) hb1 (by simp <;> omega)
  exact ⟨⟨_, rfl, own_mono hown2 hb3.size⟩, Below.two hb3 hb2 hb3.size⟩

set_option maxHeartbeats 4000000 in
set_option maxRecDepth 100000 in
theorem lawEBars (s : ByteArray) (w : World) :
    Calls Tryd.prog 5 #[.string s] w fun e w' => e = .returned (.bool true) ∧ Below w.heap.size w w' := by
  by_cases hbig : s.size > 2147483647
  · go_enter Tryd.func5, Tryd.ntmps5
    go_wp2
    go_ret
    exact ⟨rfl, Below.refl _ _⟩
  · have hs : s.size ≤ 2147483647 := by omega
    clear hbig
    by_cases hok : okE s
    · have HOK := Lib.hid hok
      have HD : Hid (decide (okE s) = true) := Lib.hid (decide_eq_true hok)
      clear hok
      go_enter Tryd.func5, Tryd.ntmps5
      go_wp2_with fail
      refine (ODCheckedE_any s hs _).mono ?_
      rintro e w1 ⟨⟨r, rfl, hr⟩, n1, rfl⟩
      rw [HD.out]
      have hrw := hr HOK.out
      obtain ⟨hf1, hf2, hf3, hf4⟩ := withChkE_facts HOK.out
      have hr8 : r.size = 8 := by rw [← bl_length, hrw, hf1]
      have HRD : Hid (allDig r) := Lib.hid (fun i hi => by rw [hrw]; exact hf2 i (by omega))
      have H49 : Hid ((nthU (bl r) 0).toNat ≤ 49) := Lib.hid (by rw [hrw]; exact hf3)
      have HLAST : Hid (nthU (bl r) 7 = chkE ((bl r).take 7)) := Lib.hid (by rw [hrw]; exact hf4)
      have HL := Lib.hid (rowE8_length hr8 HRD.out)
      clear hr hrw hf1 hf2 hf3 hf4
      have hb1 : Below w.heap.size w (w.drewN n1) := below_drewN' (Below.refl _ _) n1
      generalize w.drewN n1 = wa at *
      go_wp2_with fail
      refine (ODUpcEBars_ok r _ hr8 HRD.out H49.out HLAST.out).mono ?_
      rintro e w2 ⟨⟨v2, rfl, hown2⟩, hb2⟩
      have hb2w := Below.two hb1 hb2 hb1.size
      have hs2 := SlAt.of_own hown2
      clear hb1 hb2 hown2
      go_wp2_with fail
      refine (ODModulesE_any r hr8 HRD.out _).mono ?_
      rintro e w3 ⟨⟨v3, rfl, hown3⟩, hb3⟩
      have hs3 : SlAt w3 v3 ((rowE8 r).map .bool) := SlAt.of_own hown3
      have hs23 := hs2.below' hb3
      have hb3w := Below.two hb2w hb3 hb2w.size
      clear hb3 hb2w hs2 hown3
      go_wp2_with fail
      refine (ODSame_any _ _ _ _ _ hs23 hs3).mono ?_
      rintro e w8 ⟨rfl, n, rfl⟩
      have hb8 := below_drewN' hb3w n
      simp only [decide_true]
      clear hs23 hs3 hb3w
      go_wp2
      go_ret
      exact ⟨rfl, hb8⟩
    · have HD : Hid (decide (okE s) = false) := Lib.hid (decide_eq_false hok)
      clear hok
      go_enter Tryd.func5, Tryd.ntmps5
      go_wp2_with fail
      refine (ODCheckedE_any s hs _).mono ?_
      rintro e w1 ⟨⟨r, rfl, hr⟩, n1, rfl⟩
      rw [HD.out]
      clear hr
      have hb1 : Below w.heap.size w (w.drewN n1) := below_drewN' (Below.refl _ _) n1
      go_wp2
      go_ret
      exact ⟨rfl, hb1⟩
end Go.Proofs.YtpgddedhhjbgoaaDoor
