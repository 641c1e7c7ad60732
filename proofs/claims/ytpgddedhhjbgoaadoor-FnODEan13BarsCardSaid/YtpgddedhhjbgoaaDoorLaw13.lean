/- Walks: impl.ODEan13Bars, laws.FnODEan13Bars. -/
import Derived.Test.YtpgddedhhjbgoaaDoorEan13E
import Derived.Test.YtpgddedhhjbgoaaDoorEan13M
import Derived.Test.YtpgddedhhjbgoaaDoorDrawn
import Derived.Test.YtpgddedhhjbgoaaDoorSame
namespace Go.Proofs.YtpgddedhhjbgoaaDoor
open Go.RowKit

theorem withChk_facts13 {s : ByteArray} {many : Nat} (h : okEan s many) : (withChk s many).length = many + 1 ∧ ∀ i, i < many + 1 → isDig (nthU (withChk s many) i) := by
  have hsz : many ≤ s.size := by rcases h.2 with h' | h' <;> omega
  have hl : ((bl s).take many).length = many := by rw [List.length_take, bl_length]; omega
  refine ⟨by rw [withChk, List.length_append, hl]; rfl, fun i hi => ?_⟩
  by_cases hlt : i < many
  · have e : nthU (withChk s many) i = nthU (bl s) i := by
      rw [withChk, nthU, List.getD, List.getElem?_append_left (by rw [hl]; exact hlt), List.getElem?_take, if_pos hlt]; rfl
    rw [e]; exact h.1 i (by omega)
  · have e : nthU (withChk s many) i = chkB ((bl s).take many) := by
      have hi' : i = ((bl s).take many).length := by omega
      rw [withChk, hi']; simp [nthU, List.getD]
    rw [e]; exact chkB_dig _

theorem row13_length {s : ByteArray} (h : okEan s 12) : (row13 s).length = 95 := by
  obtain ⟨h1, h2⟩ := withChk_facts13 h
  have hx : (withChk s 12).extract 1 7 = ((withChk s 12).take 7).drop 1 := by rw [List.extract_eq_take_drop, List.drop_take]
  have hl : ((withChk s 12).extract 1 7).length = 6 := by rw [hx, List.length_drop, List.length_take, h1]; rfl
  have hr : ((withChk s 12).drop 7).length = 6 := by rw [List.length_drop, h1]
  have hln : ∀ k, k < 6 → nthU ((withChk s 12).extract 1 7) k = nthU (withChk s 12) (1 + k) := fun k hk => by
    rw [hx]; simp only [nthU, List.getD, List.getElem?_drop, List.getElem?_take]; rw [if_pos (by omega)]
  have hrd : ∀ k, nthU ((withChk s 12).drop 7) k = nthU (withChk s 12) (7 + k) := fun k => by simp [nthU, List.getD, List.getElem?_drop]
  have := eanR_length ((withChk s 12).extract 1 7) (sets13 (nthU (withChk s 12) 0)) ((withChk s 12).drop 7) 6 (fun k hk => by rw [hln k (by omega)]; exact h2 (1 + k) (by omega)) (fun k hk => by rw [hrd]; exact h2 (7 + k) (by omega))
  rw [row13, eanRow, List.length_append, hr, this, hl]; rfl

set_option maxHeartbeats 1000000 in
set_option maxRecDepth 100000 in
theorem ODEan13Bars_bad (s : ByteArray) (w : World) (hs : s.size ≤ 2147483647) (hno : ¬ okEan s 12) :
    Calls Tryd.prog 10 #[.string s] w fun e w' => e = .returned (.tuple #[.slice none 0 0, .bool false]) ∧ Below w.heap.size w w' := by
  have HNO := Lib.hid hno
  clear hno
  go_enter Tryd.func10, Tryd.ntmps10
  go_wp2_with (first | (go_at_call 28; refine (enc13_bad s _ hs HNO.out _).mono ?_; rintro e w1 ⟨⟨u, y, rfl⟩, hb1⟩) | (go_at_call 15; refine (drawn_bad _ _ _ _).mono ?_; rintro e w2 ⟨rfl, rfl⟩) | go_in)
  go_ret2
  exact ⟨rfl, Below.two (by go_grown) hb1 (by simp <;> omega)⟩
theorem enc13_ok (s : ByteArray) (w : World) (hok : okEan s 12) (x : Value) :
    Calls Tryd.prog 28 #[.agg #[], .string s, x] w fun e w' =>
      (∃ v, e = .returned (.tuple #[v, .nilIface]) ∧ w'.ownsRow w.heap.size 4 1 v 95 ((row13 s).map .bool)) ∧ Below w.heap.size w w' := by
  rcases hok.2 with h | h
  · exact enc13_twelve s w h hok.1 x
  · exact enc13_thirteen s w h.1 hok x
set_option maxHeartbeats 1000000 in
set_option maxRecDepth 100000 in
theorem ODEan13Bars_ok (s : ByteArray) (w : World) (hok : okEan s 12) :
    Calls Tryd.prog 10 #[.string s] w fun e w' => (∃ v, e = .returned (.tuple #[v, .bool true]) ∧ w'.ownsRow w.heap.size 4 1 v 95 ((row13 s).map .bool)) ∧ Below w.heap.size w w' := by
  have HOK := Lib.hid hok
  have HL := Lib.hid (row13_length hok)
  clear hok
  go_enter Tryd.func10, Tryd.ntmps10
  go_wp2_with (first | (go_at_call 28; refine (enc13_ok s _ HOK.out _).mono ?_; rintro e w1 ⟨⟨v, rfl, hown⟩, hb1⟩) | (go_at_call 15; refine (drawn_ok _ (row13 s) _ _ (by rw [HL.out]; exact hown) (by rw [HL.out]; omega) (by rw [HL.out]; omega)).mono ?_; rintro e w2 ⟨⟨v2, rfl, hown2⟩, hb2⟩) | go_in)
  rw [HL.out] at hown2
  go_ret2
  have hb3 : Below w.heap.size w w1 := Below.two (by go_grown) hb1 (by simp <;> omega)
  exact ⟨⟨_, rfl, own_mono hown2 hb3.size⟩, Below.two hb3 hb2 hb3.size⟩

set_option maxHeartbeats 4000000 in
set_option maxRecDepth 100000 in
theorem law13Bars (s : ByteArray) (w : World) :
    Calls Tryd.prog 4 #[.string s] w fun e w' => e = .returned (.bool true) ∧ Below w.heap.size w w' := by
  by_cases hbig : s.size > 2147483647
  · go_enter Tryd.func4, Tryd.ntmps4
    go_wp2
    go_ret
    exact ⟨rfl, Below.refl _ _⟩
  · have hs : s.size ≤ 2147483647 := by omega
    clear hbig
    by_cases hok : okEan s 12
    · have HOK := Lib.hid hok
      have HD : Hid (decide (okEan s 12) = true) := Lib.hid (decide_eq_true hok)
      clear hok
      go_enter Tryd.func4, Tryd.ntmps4
      go_wp2_with fail
      refine (ODChecked_any 7 12 (.inr (.inl ⟨rfl, rfl⟩)) s hs _).mono ?_
      rintro e w1 ⟨⟨r, rfl, hr⟩, n1, rfl⟩
      rw [HD.out]
      have hrw := hr HOK.out
      obtain ⟨hf1, hf2⟩ := withChk_facts13 HOK.out
      have hr13 : r.size = 13 := by rw [← bl_length, hrw, hf1]
      have HRD : Hid (allDig r) := Lib.hid (fun i hi => by rw [hrw]; exact hf2 i (by omega))
      have HROW : Hid (eanRow ((bl r).extract 1 7) (sets13 (nthU (bl r) 0)) ((bl r).drop 7) = row13 s) := Lib.hid (by rw [hrw]; rfl)
      clear hr hrw hf1 hf2
      have hb1 : Below w.heap.size w (w.drewN n1) := below_drewN' (Below.refl _ _) n1
      generalize w.drewN n1 = wa at *
      go_wp2_with fail
      refine (ODEan13Bars_ok s _ HOK.out).mono ?_
      rintro e w2 ⟨⟨v2, rfl, hown2⟩, hb2⟩
      have hb2w := Below.two hb1 hb2 hb1.size
      have hs2 := SlAt.of_own hown2
      clear hb1 hb2 hown2
      go_wp2_with fail
      refine (ODModules13_any r hr13 HRD.out _).mono ?_
      rintro e w3 ⟨⟨v3, rfl, hown3⟩, hb3⟩
      rw [HROW.out] at hown3
      have hs3 := SlAt.of_own hown3
      have hs23 := hs2.below' hb3
      have hb3w := Below.two hb2w hb3 hb2w.size
      clear hb3 hb2w hs2 hown3
      go_wp2_with fail
      refine (ODSame_any _ _ _ _ _ hs23 hs3).mono ?_
      rintro e w8 ⟨rfl, n, rfl⟩
      have hb8 := below_drewN' hb3w n
      simp only [decide_true]
      clear hs23 hs3 hb3w
      go_wp2
      go_ret
      exact ⟨rfl, hb8⟩
    · have HNO := Lib.hid hok
      have HD : Hid (decide (okEan s 12) = false) := Lib.hid (decide_eq_false hok)
      clear hok
      go_enter Tryd.func4, Tryd.ntmps4
      go_wp2_with fail
      refine (ODChecked_any 7 12 (.inr (.inl ⟨rfl, rfl⟩)) s hs _).mono ?_
      rintro e w1 ⟨⟨r, rfl, hr⟩, n1, rfl⟩
      rw [HD.out]
      clear hr
      have hb1 : Below w.heap.size w (w.drewN n1) := below_drewN' (Below.refl _ _) n1
      generalize w.drewN n1 = wa at *
      go_wp2_with fail
      refine (ODEan13Bars_bad s _ hs HNO.out).mono ?_
      rintro e w2 ⟨rfl, hb2⟩
      have hb2w := Below.two hb1 hb2 hb1.size
      clear hb1 hb2
      go_wp2
      go_ret
      exact ⟨rfl, hb2w⟩
end Go.Proofs.YtpgddedhhjbgoaaDoor
