/- Walks: impl.OD39Bars at all bytes below 128, laws.FnOD39Full. -/
import Derived.Test.Ytpgddedhhjbgoaa39G
import Derived.Test.YtpgddedhhjbgoaaPairS
import Derived.Test.Ytpgddedhhjbgoaa39L
namespace Go.Proofs.Ytpgddedhhjbgoaa
open Go.RowKit

set_option maxHeartbeats 1000000 in
set_option maxRecDepth 100000 in
theorem OD39Bars_full (s : ByteArray) (w : World) (h0 : 0 < s.size) (hs : s.size ≤ 31) (ha : ∀ i, i < s.size → (nthU (bl s) i).toNat < 128) (hlast : nthU (bl s) (s.size - 1) ∉ signs39) :
    Calls Try.prog 8 #[.string s] w fun e w' => (∃ v, e = .returned (.tuple #[v, .bool true]) ∧ w'.ownsRow w.heap.size 4 1 v (bars (widths39 (pairs39 (bl s) s.size))).length ((bars (widths39 (pairs39 (bl s) s.size))).map .bool)) ∧ Below w.heap.size w w' := by
  have HA := Lib.hid ha
  have HLAST := Lib.hid hlast
  clear ha hlast
  have hpl := pairs39_length (bl s) s.size
  generalize hP : pairs39 (bl s) s.size = P at *
  have HP := Lib.hid hP
  have hl := bars_length_le (widths39 P) 20 (widths39_le _)
  rw [widths39_length] at hl
  have hp : 0 < (bars (widths39 P)).length := by
    rw [m39_end, List.length_append, barsFrom_length]
    show 0 < _ + 12; omega
  clear hP
  go_enter Try.func8, Try.ntmps8
  go_wp2_with (first | (go_at_call 37; refine (enc39_full s _ h0 hs HA.out HLAST.out _).mono ?_; rw [HP.out]; rintro e w1 ⟨⟨v, rfl, hown⟩, hb1⟩) | (go_at_call 20; refine (drawn_ok _ _ _ _ hown (by omega) hp).mono ?_; rintro e w2 ⟨⟨v2, rfl, hown2⟩, hb2⟩) | go_in)
  go_ret2
  have hb3 : Below w.heap.size w w1 := Below.two (by go_grown) hb1 (by simp <;> omega)
  exact ⟨⟨_, rfl, own_mono hown2 hb3.size⟩, Below.two hb3 hb2 hb3.size⟩

theorem small_not39 {c : UInt8} (h1 : 97 ≤ c.toNat) (h2 : c.toNat ≤ 122) : c ∉ signs39 := by
  intro h
  have : ∀ c ∈ signs39, c.toNat ≤ 90 := by decide
  have := this c h
  omega
theorem pairs39_signs {s : ByteArray} (ha : ∀ i, i < s.size → (nthU (bl s) i).toNat < 128) : ∀ c ∈ pairs39 (bl s) s.size, c ∈ signs39 := by
  intro c hc
  obtain ⟨j, hj, hc⟩ := List.mem_flatMap.1 hc
  exact pair39_signs _ (ha j (List.mem_range.1 hj)) c hc

set_option maxHeartbeats 4000000 in
set_option maxRecDepth 100000 in
theorem law39Full (cs : List UInt8) (v : Value) (w : World) (o : UInt8) (h1 : SlAt w v (cs.map B8)) :
    Calls Try.prog 3 #[v, B8 o] w fun e w' => e = .returned (.bool true) ∧ Below w.heap.size w w' := by
  obtain ⟨a1, c1, rfl, hm1⟩ := h1.form
  simp only [List.length_map] at hm1 ⊢
  have ho : o.toNat ≤ 255 := by have := o.toNat_lt; omega
  unfold B8
  by_cases hbig : cs.length > 2147483647
  · clear h1
    go_enter Try.func3, Try.ntmps3
    go_wp2
    go_ret
    exact ⟨rfl, Below.refl _ _⟩
  · go_enter Try.func3, Try.ntmps3
    obtain ⟨c, hc, hc1, hc2⟩ : ∃ c : UInt8, (97 : Int) + (o.toNat : Int) % 26 = (c.toNat : Int) ∧ 97 ≤ c.toNat ∧ c.toNat ≤ 122 := ⟨UInt8.ofNat (97 + o.toNat % 26), by
      rw [UInt8.toNat_ofNat']; omega, by rw [UInt8.toNat_ofNat']; omega, by rw [UInt8.toNat_ofNat']; omega⟩
    have h1' : SlAt w (.slice a1 cs.length c1) (cs.map B8) := by simpa using h1
    have H1 := Lib.hid h1'
    clear h1 h1'
    have hcv0 := conv_one (P := Try.prog) w c 22 9 5 Try.underlying22 Try.underlying5 Try.underlying9
    have hcw : IntKind.u8.wrap (97 + (o.toNat : Int).tmod 26) = (c.toNat : Int) := by
      rw [Int.tmod_eq_emod_of_nonneg (by omega)]; show (97 + (o.toNat : Int) % 26) % 256 = _; omega
    go_wp2_with fail
    go_region_with (go_at_call 7; go_loud (refine (ODAscii_any cs _ _ 30 (by omega) (H1.out.below' (by first | exact Below.refl _ _ | go_grown))).mono ?_; rintro e w1 ⟨⟨r, rfl, hr⟩, hb1⟩; have hle : r.size ≤ 30 := (by have h9 := ascii_length cs 30; rw [← hr, bl_length] at h9; omega); have HR := Lib.hid hr; clear hr; have hcv1 := conv_one' (P := Try.prog) w1 c 22 9 5 Try.underlying22 Try.underlying5 Try.underlying9; first | have hcv2 := conv_one_far (P := Try.prog) (w := w) (c := c) 22 9 Try.underlying22 Try.underlying5 Try.underlying9 hb1 | skip))
    all_goals
      try clear hcv2
      clear hcv0 hcv1 hcw hc
      have hbw : Below w.heap.size w w1 := by first | exact Below.two (Below.refl _ w).drew hb1 (Nat.le_refl _) | exact Below.two ((below_alloc w _).drew) hb1 (by simp)
      clear hb1
      have hlow : ∀ c ∈ bl r, c.toNat < 128 := by rw [HR.out]; exact ascii_low _ _
      have hbl : bl (r ++ ⟨#[c]⟩) = bl r ++ [c] := by rw [bl_append]; rfl
      have hsz : (r ++ ⟨#[c]⟩ : ByteArray).size = r.size + 1 := by rw [ByteArray.size_append']; rfl
      have HLOW : Hid (∀ i, i < (r ++ ⟨#[c]⟩ : ByteArray).size → (nthU (bl (r ++ ⟨#[c]⟩)) i).toNat < 128) := Lib.hid (all_of_mem (by
        rw [hbl]; intro x hx
        rcases List.mem_append.1 hx with hx | hx
        · exact hlow x hx
        · rw [List.mem_singleton.1 hx]; omega))
      have HLAST : Hid (nthU (bl (r ++ ⟨#[c]⟩)) ((r ++ ⟨#[c]⟩ : ByteArray).size - 1) ∉ signs39) := Lib.hid (by
        rw [hbl, hsz, show r.size + 1 - 1 = (bl r).length by rw [bl_length]; omega]
        have e : nthU (bl r ++ [c]) (bl r).length = c := by simp [nthU, List.getD]
        rw [e]; exact small_not39 hc1 hc2)
      clear hbl hlow HR H1
      have h0 : 0 < (r ++ ⟨#[c]⟩ : ByteArray).size := by omega
      have h31 : (r ++ ⟨#[c]⟩ : ByteArray).size ≤ 31 := by omega
      clear hsz
      generalize r ++ ⟨#[c]⟩ = t at *
      go_wp2_with fail
      refine (OD39Bars_full t _ h0 h31 HLOW.out HLAST.out).mono ?_
      rintro e w3 ⟨⟨v3, rfl, hown3⟩, hb3⟩
      have hb3w : Below w.heap.size w w3 := by first | exact Below.two hbw hb3 hbw.size | exact Below.two (hbw.alloc hbw.size _) hb3 (hbw.alloc hbw.size _).size
      have hs3 := SlAt.of_own hown3
      clear hb3 hown3 hbw
      go_wp2_with fail
      refine (OD39Pairs_any t _ (by omega) HLOW.out).mono ?_
      rintro e w4 ⟨⟨q, rfl, hq⟩, hb4⟩
      have hql : q.size ≤ 62 := by rw [← bl_length, hq]; have := pairs39_length (bl t) t.size; omega
      have HD : Hid (∀ i, i < q.size → nthU (bl q) i ∈ signs39) := Lib.hid (all_of_mem (by rw [hq]; exact pairs39_signs HLOW.out))
      rw [← hq] at hs3
      have hs4 := hs3.below' hb4
      have hb4w := Below.two hb3w hb4 hb3w.size
      clear hb4 hs3 hq HLAST
      go_wp2_with fail
      refine (OD39_any q _ (by omega) HD.out).mono ?_
      rintro e w7 ⟨v7, rfl, hown7, hb7⟩
      have hs7 := SlAt.of_own hown7
      have hs67 := hs4.below' hb7
      have hb7w := Below.two hb4w hb7 hb4w.size
      clear hb7 hs4 hown7
      go_wp2_with fail
      refine (ODSame_any _ _ _ _ _ hs67 hs7).mono ?_
      rintro e w8 ⟨rfl, n, rfl⟩
      have hb8 := below_drewN' hb7w n
      simp only [decide_true]
      clear hs67 hs7 hb7w
      go_wp2
      go_ret
      exact ⟨rfl, hb8⟩
end Go.Proofs.Ytpgddedhhjbgoaa
