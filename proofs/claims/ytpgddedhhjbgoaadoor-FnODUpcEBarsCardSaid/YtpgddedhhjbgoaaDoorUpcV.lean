/- Walks: oned.convertUPCEtoUPCA. (Printed by genUV.py.) -/
import Derived.Test.YtpgddedhhjbgoaaDoorUpcC
import Derived.Test.YtpgddedhhjbgoaaDoorAscii
import Derived.Lib.AppendStr
namespace Go.Proofs.YtpgddedhhjbgoaaDoor
open Go.RowKit

theorem lit_newF (w : World) (l : List Value) (e : TypeId) (fr : Nat × Nat) : ∀ j u', l[j]? = some u' → (w.alloc (.cells l.toArray e fr)).cell? ((⟨w.heap.size, 0, none⟩ : Addr).add j) = some u' := by
  intro j u' hj
  rw [Addr.add_lit, cell_of_row (w.alloc _) w.heap.size _ _ e fr (heap_alloc_new w _), Nat.zero_add]
  simpa using hj
theorem strCells_bl (t : ByteArray) : Lib.strCells t = (bl t).map B8 := by
  unfold Lib.strCells bl B8
  rfl
theorem own_str8 {w : World} {base : Nat} {e : TypeId} {v : Value} {L M : List UInt8} {t : ByteArray} (hM : bl t = M) (h : w.ownsRow base e 1 v (L.length + t.size) (L.map B8 ++ Lib.strCells t)) :
    w.ownsRow base e 1 v (L ++ M).length ((L ++ M).map B8) := by
  rw [strCells_bl, hM, ← bl_length, hM] at h
  rw [List.length_append, List.map_append]
  exact h
theorem wideE_1 {ds : List UInt8} (h : (nthU ds 6).toNat ≤ 50) : wideE ds = ds.take 1 ++ ((ds.drop 1).take 2) ++ ((ds.drop 1).drop 5) ++ [48, 48, 48, 48] ++ (((ds.drop 1).take 5).drop 2) := if_pos h
theorem wideE_2 {ds : List UInt8} (h : ¬ (nthU ds 6).toNat ≤ 50) (h2 : (nthU ds 6).toNat = 51) : wideE ds = ds.take 1 ++ ((ds.drop 1).take 3) ++ [48, 48, 48, 48, 48] ++ (((ds.drop 1).take 5).drop 3) := (if_neg h).trans (if_pos h2)
theorem wideE_3 {ds : List UInt8} (h : ¬ (nthU ds 6).toNat ≤ 50) (h2 : ¬ (nthU ds 6).toNat = 51) (h3 : (nthU ds 6).toNat = 52) : wideE ds = ds.take 1 ++ ((ds.drop 1).take 4) ++ [48, 48, 48, 48, 48] ++ (((ds.drop 1).take 5).drop 4) := (if_neg h).trans ((if_neg h2).trans (if_pos h3))
theorem wideE_4 {ds : List UInt8} (h : ¬ (nthU ds 6).toNat ≤ 50) (h2 : ¬ (nthU ds 6).toNat = 51) (h3 : ¬ (nthU ds 6).toNat = 52) : wideE ds = ds.take 1 ++ ((ds.drop 1).take 5) ++ [48, 48, 48, 48] ++ ((ds.drop 1).drop 5) := (if_neg h).trans ((if_neg h2).trans (if_neg h3))
theorem nthU_7th (a0 a1 a2 a3 a4 a5 a6 : UInt8) : nthU [a0, a1, a2, a3, a4, a5, a6] 6 = a6 := rfl

set_option maxHeartbeats 4000000 in
set_option maxRecDepth 100000 in
theorem convertE_any (s : ByteArray) (a0 a1 a2 a3 a4 a5 a6 a7 : UInt8) (hs : bl s = [a0, a1, a2, a3, a4, a5, a6, a7]) (hd6 : isDig a6) (w : World) :
    Calls Tryd.prog 41 #[.string s] w fun e w' => (∃ r : ByteArray, e = .returned (.string r) ∧ bl r = wideE [a0, a1, a2, a3, a4, a5, a6] ++ [a7]) ∧ Below w.heap.size w w' := by
  obtain ⟨i0, hi, hz0, hz1, hz2⟩ := info_parts info_u8
  have hs8 : s.size = 8 := by rw [← bl_length, hs]; rfl
  obtain ⟨D, hDdef⟩ : ∃ D, s.extract 1 7 = D := ⟨_, rfl⟩
  have hD : bl D = [a1, a2, a3, a4, a5, a6] := by rw [← hDdef, bl_extract, hs]; rfl
  have hDs : D.size = 6 := by rw [← bl_length, hD]; rfl
  have hg0 : s[0]'(by omega) = a0 := by rw [bl_get s 0 (by omega), hs]; rfl
  have hg7 : s[7]'(by omega) = a7 := by rw [bl_get s 7 (by omega), hs]; rfl
  have hd5 : D[5]'(by omega) = a6 := by rw [bl_get D 5 (by omega), hD]; rfl
  have hd4 : D[4]'(by omega) = a5 := by rw [bl_get D 4 (by omega), hD]; rfl
  have HD := Lib.hid hD
  obtain ⟨p1, p2⟩ := hd6
  clear hs hD
  have kc := fun (w : World) (C : Array Value) (n c : Nat) => Lib.run_convert_bytes_const (P := Tryd.prog) w 44 5 C n c Tryd.underlying44 Tryd.underlying5
  go_enter Tryd.func41, Tryd.ntmps41
  go_wp2_with (at_make; refine wpList_make_own _ rfl _ _ 44 rfl w.heap.size 5 i0 (.int .u8 0) 1 Tryd.underlying44 hi hz0 hz1 _ _ _ 12 rfl rfl rfl (by omega) (by unfold maxLen; omega) (Nat.le_refl _) ?_)
  intro w2 hown2 hgrow2
  have hb2 : Below w.heap.size w w2 := below_of_grown hgrow2 (Nat.le_refl _) (fun k hk => by cases hk)
  have hsz2 := hb2.size
  clear hgrow2
  go_wp2_with (at_builtin; refine wpList_append_lies _ rfl _ _ 44 rfl w.heap.size 5 i0 (.int .u8 0) 1 1 Tryd.underlying44 hi hz0 hz1 hz2 rfl (by decide) _ _ _ rfl (hown2.alloc _) ⟨w2.heap.size, 0, none⟩ 1 1 [B8 a0] rfl rfl (one_new w2 _ _) (bytes_one [a0]) (by decide) (by unfold maxLen; simp) (by simp) (by simp; omega) _ rfl ?_)
  intro g3 cap3 w3 hownn hgrow _ _
  have hb3 : Below w.heap.size w w3 := app_below hb2 hsz2 hown2 hgrow
  have hsz3 := hb3.size
  generalize Value.slice (some ⟨g3, 0, none⟩) _ cap3 = vv3 at *
  have hown3 : w3.ownsRow w.heap.size 5 1 vv3 ([a0] : List UInt8).length (([a0] : List UInt8).map B8) := hownn
  clear hgrow hownn hown2 hb2 hsz2
  by_cases c1 : a6.toNat ≤ 50
  · have hc : a6.toNat = 48 ∨ a6.toNat = 49 ∨ a6.toNat = 50 := by omega
    have q48 : a6.toNat ≠ 48 → ((a6.toNat : Int) == 48) = false := fun h => by rw [beq_eq_false_iff_ne]; omega
    have q49 : a6.toNat ≠ 49 → ((a6.toNat : Int) == 49) = false := fun h => by rw [beq_eq_false_iff_ne]; omega
    obtain ⟨b0, b1, b2, e0, e1, e2, hor⟩ : ∃ b0 b1 b2 : Bool, ((a6.toNat : Int) == 48) = b0 ∧ ((a6.toNat : Int) == 49) = b1 ∧ ((a6.toNat : Int) == 50) = b2 ∧ ((b0 = true) ∨ (b0 = false ∧ b1 = true) ∨ (b0 = false ∧ b1 = false ∧ b2 = true)) := by
      refine ⟨_, _, _, rfl, rfl, rfl, ?_⟩
      rcases hc with hc | hc | hc
      · exact .inl (by rw [beq_iff_eq]; omega)
      · exact .inr (.inl ⟨by rw [beq_eq_false_iff_ne]; omega, by rw [beq_iff_eq]; omega⟩)
      · exact .inr (.inr ⟨by rw [beq_eq_false_iff_ne]; omega, by rw [beq_eq_false_iff_ne]; omega, by rw [beq_iff_eq]; omega⟩)
    clear hc q48 q49
    rcases hor with rfl | ⟨rfl, rfl⟩ | ⟨rfl, rfl, rfl⟩
    all_goals
      have hx3 : bl (D.extract 0 2) = [a1, a2] := by rw [bl_extract, HD.out]; rfl
      have HX3 := Lib.hid hx3
      have hxs3 : (D.extract 0 2).size = ([a1, a2] : List UInt8).length := by rw [← bl_length, hx3]
      have HXS3 := Lib.hid hxs3
      clear hx3 hxs3
      go_wp2_with (at_builtin; refine Lib.wpList_append_own_string _ rfl _ _ 44 9 rfl w.heap.size 5 i0 Tryd.underlying44 Tryd.underlying9 hi hz0 hz1 hz2 _ _ _ rfl hown3 (D.extract 0 2) rfl (by rw [HXS3.out]; unfold maxLen; simp) (by rw [HXS3.out]; simp) hsz3 ?_)
      intro vv4 w4 hownn hgrow _
      have hb4 : Below w.heap.size w w4 := app_below0 hb3 hsz3 hown3 hgrow
      have hsz4 := hb4.size
      have hown4 : w4.ownsRow w.heap.size 5 1 vv4 ([a0, a1, a2] : List UInt8).length (([a0, a1, a2] : List UInt8).map B8) := by
        have h9 := hownn
        rw [strCells_bl, HX3.out] at h9
        exact h9
      clear hgrow hownn hown3 hb3 hsz3 HX3 HXS3
      go_wp2_with (at_builtin; refine wpList_append_lies _ rfl _ _ 44 rfl w.heap.size 5 i0 (.int .u8 0) 1 1 Tryd.underlying44 hi hz0 hz1 hz2 rfl (by decide) _ _ _ rfl (hown4.alloc _) ⟨w4.heap.size, 0, none⟩ 1 1 [B8 a6] rfl rfl (one_new w4 _ _) (bytes_one [a6]) (by decide) (by unfold maxLen; simp) (by simp) (by simp; omega) _ rfl ?_)
      intro g5 cap5 w5 hownn hgrow _ _
      have hb5 : Below w.heap.size w w5 := app_below hb4 hsz4 hown4 hgrow
      have hsz5 := hb5.size
      generalize Value.slice (some ⟨g5, 0, none⟩) _ cap5 = vv5 at *
      have hown5 : w5.ownsRow w.heap.size 5 1 vv5 ([a0, a1, a2, a6] : List UInt8).length (([a0, a1, a2, a6] : List UInt8).map B8) := hownn
      clear hgrow hownn hown4 hb4 hsz4
      go_wp2_with (at_builtin; refine wpList_append_lies _ rfl _ _ 44 rfl w.heap.size 5 i0 (.int .u8 0) 1 1 Tryd.underlying44 hi hz0 hz1 hz2 rfl (by decide) _ _ _ rfl (hown5.alloc _) ⟨w5.heap.size, 0, none⟩ 4 4 [B8 48, B8 48, B8 48, B8 48] rfl rfl (lit_newF w5 [B8 48, B8 48, B8 48, B8 48] _ _) (bytes_one [48, 48, 48, 48]) (by decide) (by unfold maxLen; simp) (by simp) (by simp; omega) _ rfl ?_)
      intro g6 cap6 w6 hownn hgrow _ _
      have hb6 : Below w.heap.size w w6 := app_below hb5 hsz5 hown5 hgrow
      have hsz6 := hb6.size
      generalize Value.slice (some ⟨g6, 0, none⟩) _ cap6 = vv6 at *
      have hown6 : w6.ownsRow w.heap.size 5 1 vv6 ([a0, a1, a2, a6, 48, 48, 48, 48] : List UInt8).length (([a0, a1, a2, a6, 48, 48, 48, 48] : List UInt8).map B8) := hownn
      clear hgrow hownn hown5 hb5 hsz5
      have hx6 : bl (D.extract 2 5) = [a3, a4, a5] := by rw [bl_extract, HD.out]; rfl
      have HX6 := Lib.hid hx6
      have hxs6 : (D.extract 2 5).size = ([a3, a4, a5] : List UInt8).length := by rw [← bl_length, hx6]
      have HXS6 := Lib.hid hxs6
      clear hx6 hxs6
      go_wp2_with (at_builtin; refine Lib.wpList_append_own_string _ rfl _ _ 44 9 rfl w.heap.size 5 i0 Tryd.underlying44 Tryd.underlying9 hi hz0 hz1 hz2 _ _ _ rfl hown6 (D.extract 2 5) rfl (by rw [HXS6.out]; unfold maxLen; simp) (by rw [HXS6.out]; simp) hsz6 ?_)
      intro vv7 w7 hownn hgrow _
      have hb7 : Below w.heap.size w w7 := app_below0 hb6 hsz6 hown6 hgrow
      have hsz7 := hb7.size
      have hown7 : w7.ownsRow w.heap.size 5 1 vv7 ([a0, a1, a2, a6, 48, 48, 48, 48, a3, a4, a5] : List UInt8).length (([a0, a1, a2, a6, 48, 48, 48, 48, a3, a4, a5] : List UInt8).map B8) := by
        have h9 := hownn
        rw [strCells_bl, HX6.out] at h9
        exact h9
      clear hgrow hownn hown6 hb6 hsz6 HX6 HXS6
      go_wp2_with (at_builtin; refine wpList_append_lies _ rfl _ _ 44 rfl w.heap.size 5 i0 (.int .u8 0) 1 1 Tryd.underlying44 hi hz0 hz1 hz2 rfl (by decide) _ _ _ rfl (hown7.alloc _) ⟨w7.heap.size, 0, none⟩ 1 1 [B8 a7] rfl rfl (one_new w7 _ _) (bytes_one [a7]) (by decide) (by unfold maxLen; simp) (by simp) (by simp; omega) _ rfl ?_)
      intro g8 cap8 w8 hownn hgrow _ _
      have hb8 : Below w.heap.size w w8 := app_below hb7 hsz7 hown7 hgrow
      have hsz8 := hb8.size
      generalize Value.slice (some ⟨g8, 0, none⟩) _ cap8 = vv8 at *
      have hown8 : w8.ownsRow w.heap.size 5 1 vv8 ([a0, a1, a2, a6, 48, 48, 48, 48, a3, a4, a5, a7] : List UInt8).length (([a0, a1, a2, a6, 48, 48, 48, 48, a3, a4, a5, a7] : List UInt8).map B8) := hownn
      clear hgrow hownn hown7 hb7 hsz7
      have hcv : ∃ W : Value, W = vv8 ∧ (convert 44 9 W).run Tryd.prog w8 = .ok (.string ⟨([a0, a1, a2, a6, 48, 48, 48, 48, a3, a4, a5, a7] : List UInt8).toArray⟩) w8 := by
        refine ⟨vv8, rfl, ?_⟩
        obtain ⟨g, cap, rfl, _, _⟩ := own_slice hown8 (by simp)
        exact conv_own (P := Tryd.prog) Tryd.underlying44 Tryd.underlying5 Tryd.underlying9 hown8
      obtain ⟨W, rfl, hcv⟩ := hcv
      have hb := hb8
      clear hown8 hsz8 hb8
      have HRES : Hid (bl (⟨([a0, a1, a2, a6, 48, 48, 48, 48, a3, a4, a5, a7] : List UInt8).toArray⟩ : ByteArray) = wideE [a0, a1, a2, a3, a4, a5, a6] ++ [a7]) := Lib.hid (by
        rw [bl_mk]; rw [wideE_1 (show (nthU [a0, a1, a2, a3, a4, a5, a6] 6).toNat ≤ 50 from c1)]; rfl)
      go_wp2
      go_ret
      exact ⟨⟨_, rfl, HRES.out⟩, hb⟩
  · have q48 : ((a6.toNat : Int) == 48) = false := by rw [beq_eq_false_iff_ne]; omega
    have q49 : ((a6.toNat : Int) == 49) = false := by rw [beq_eq_false_iff_ne]; omega
    have q50 : ((a6.toNat : Int) == 50) = false := by rw [beq_eq_false_iff_ne]; omega
    by_cases c2 : a6.toNat = 51
    · have e51 : ((a6.toNat : Int) == 51) = true := by rw [beq_iff_eq]; omega
      have C2 := Lib.hid c2
      clear c2
      have hx3 : bl (D.extract 0 3) = [a1, a2, a3] := by rw [bl_extract, HD.out]; rfl
      have HX3 := Lib.hid hx3
      have hxs3 : (D.extract 0 3).size = ([a1, a2, a3] : List UInt8).length := by rw [← bl_length, hx3]
      have HXS3 := Lib.hid hxs3
      clear hx3 hxs3
      go_wp2_with (at_builtin; refine Lib.wpList_append_own_string _ rfl _ _ 44 9 rfl w.heap.size 5 i0 Tryd.underlying44 Tryd.underlying9 hi hz0 hz1 hz2 _ _ _ rfl hown3 (D.extract 0 3) rfl (by rw [HXS3.out]; unfold maxLen; simp) (by rw [HXS3.out]; simp) hsz3 ?_)
      intro vv4 w4 hownn hgrow _
      have hb4 : Below w.heap.size w w4 := app_below0 hb3 hsz3 hown3 hgrow
      have hsz4 := hb4.size
      have hown4 : w4.ownsRow w.heap.size 5 1 vv4 ([a0, a1, a2, a3] : List UInt8).length (([a0, a1, a2, a3] : List UInt8).map B8) := by
        have h9 := hownn
        rw [strCells_bl, HX3.out] at h9
        exact h9
      clear hgrow hownn hown3 hb3 hsz3 HX3 HXS3
      go_wp2_with (at_builtin; refine wpList_append_lies _ rfl _ _ 44 rfl w.heap.size 5 i0 (.int .u8 0) 1 1 Tryd.underlying44 hi hz0 hz1 hz2 rfl (by decide) _ _ _ rfl (hown4.alloc _) ⟨w4.heap.size, 0, none⟩ 5 5 [B8 48, B8 48, B8 48, B8 48, B8 48] rfl rfl (lit_newF w4 [B8 48, B8 48, B8 48, B8 48, B8 48] _ _) (bytes_one [48, 48, 48, 48, 48]) (by decide) (by unfold maxLen; simp) (by simp) (by simp; omega) _ rfl ?_)
      intro g5 cap5 w5 hownn hgrow _ _
      have hb5 : Below w.heap.size w w5 := app_below hb4 hsz4 hown4 hgrow
      have hsz5 := hb5.size
      generalize Value.slice (some ⟨g5, 0, none⟩) _ cap5 = vv5 at *
      have hown5 : w5.ownsRow w.heap.size 5 1 vv5 ([a0, a1, a2, a3, 48, 48, 48, 48, 48] : List UInt8).length (([a0, a1, a2, a3, 48, 48, 48, 48, 48] : List UInt8).map B8) := hownn
      clear hgrow hownn hown4 hb4 hsz4
      have hx5 : bl (D.extract 3 5) = [a4, a5] := by rw [bl_extract, HD.out]; rfl
      have HX5 := Lib.hid hx5
      have hxs5 : (D.extract 3 5).size = ([a4, a5] : List UInt8).length := by rw [← bl_length, hx5]
      have HXS5 := Lib.hid hxs5
      clear hx5 hxs5
      go_wp2_with (at_builtin; refine Lib.wpList_append_own_string _ rfl _ _ 44 9 rfl w.heap.size 5 i0 Tryd.underlying44 Tryd.underlying9 hi hz0 hz1 hz2 _ _ _ rfl hown5 (D.extract 3 5) rfl (by rw [HXS5.out]; unfold maxLen; simp) (by rw [HXS5.out]; simp) hsz5 ?_)
      intro vv6 w6 hownn hgrow _
      have hb6 : Below w.heap.size w w6 := app_below0 hb5 hsz5 hown5 hgrow
      have hsz6 := hb6.size
      have hown6 : w6.ownsRow w.heap.size 5 1 vv6 ([a0, a1, a2, a3, 48, 48, 48, 48, 48, a4, a5] : List UInt8).length (([a0, a1, a2, a3, 48, 48, 48, 48, 48, a4, a5] : List UInt8).map B8) := by
        have h9 := hownn
        rw [strCells_bl, HX5.out] at h9
        exact h9
      clear hgrow hownn hown5 hb5 hsz5 HX5 HXS5
      go_wp2_with (at_builtin; refine wpList_append_lies _ rfl _ _ 44 rfl w.heap.size 5 i0 (.int .u8 0) 1 1 Tryd.underlying44 hi hz0 hz1 hz2 rfl (by decide) _ _ _ rfl (hown6.alloc _) ⟨w6.heap.size, 0, none⟩ 1 1 [B8 a7] rfl rfl (one_new w6 _ _) (bytes_one [a7]) (by decide) (by unfold maxLen; simp) (by simp) (by simp; omega) _ rfl ?_)
      intro g7 cap7 w7 hownn hgrow _ _
      have hb7 : Below w.heap.size w w7 := app_below hb6 hsz6 hown6 hgrow
      have hsz7 := hb7.size
      generalize Value.slice (some ⟨g7, 0, none⟩) _ cap7 = vv7 at *
      have hown7 : w7.ownsRow w.heap.size 5 1 vv7 ([a0, a1, a2, a3, 48, 48, 48, 48, 48, a4, a5, a7] : List UInt8).length (([a0, a1, a2, a3, 48, 48, 48, 48, 48, a4, a5, a7] : List UInt8).map B8) := hownn
      clear hgrow hownn hown6 hb6 hsz6
      have hcv : ∃ W : Value, W = vv7 ∧ (convert 44 9 W).run Tryd.prog w7 = .ok (.string ⟨([a0, a1, a2, a3, 48, 48, 48, 48, 48, a4, a5, a7] : List UInt8).toArray⟩) w7 := by
        refine ⟨vv7, rfl, ?_⟩
        obtain ⟨g, cap, rfl, _, _⟩ := own_slice hown7 (by simp)
        exact conv_own (P := Tryd.prog) Tryd.underlying44 Tryd.underlying5 Tryd.underlying9 hown7
      obtain ⟨W, rfl, hcv⟩ := hcv
      have hb := hb7
      clear hown7 hsz7 hb7
      have HRES : Hid (bl (⟨([a0, a1, a2, a3, 48, 48, 48, 48, 48, a4, a5, a7] : List UInt8).toArray⟩ : ByteArray) = wideE [a0, a1, a2, a3, a4, a5, a6] ++ [a7]) := Lib.hid (by
        rw [bl_mk]; rw [wideE_2 (show ¬ (nthU [a0, a1, a2, a3, a4, a5, a6] 6).toNat ≤ 50 from c1) C2.out]; rfl)
      go_wp2
      go_ret
      exact ⟨⟨_, rfl, HRES.out⟩, hb⟩
    · have q51 : ((a6.toNat : Int) == 51) = false := by rw [beq_eq_false_iff_ne]; omega
      by_cases c3 : a6.toNat = 52
      · have e52 : ((a6.toNat : Int) == 52) = true := by rw [beq_iff_eq]; omega
        have C3 := Lib.hid c3
        clear c3
        have hx3 : bl (D.extract 0 4) = [a1, a2, a3, a4] := by rw [bl_extract, HD.out]; rfl
        have HX3 := Lib.hid hx3
        have hxs3 : (D.extract 0 4).size = ([a1, a2, a3, a4] : List UInt8).length := by rw [← bl_length, hx3]
        have HXS3 := Lib.hid hxs3
        clear hx3 hxs3
        go_wp2_with (at_builtin; refine Lib.wpList_append_own_string _ rfl _ _ 44 9 rfl w.heap.size 5 i0 Tryd.underlying44 Tryd.underlying9 hi hz0 hz1 hz2 _ _ _ rfl hown3 (D.extract 0 4) rfl (by rw [HXS3.out]; unfold maxLen; simp) (by rw [HXS3.out]; simp) hsz3 ?_)
        intro vv4 w4 hownn hgrow _
        have hb4 : Below w.heap.size w w4 := app_below0 hb3 hsz3 hown3 hgrow
        have hsz4 := hb4.size
        have hown4 : w4.ownsRow w.heap.size 5 1 vv4 ([a0, a1, a2, a3, a4] : List UInt8).length (([a0, a1, a2, a3, a4] : List UInt8).map B8) := by
          have h9 := hownn
          rw [strCells_bl, HX3.out] at h9
          exact h9
        clear hgrow hownn hown3 hb3 hsz3 HX3 HXS3
        go_wp2_with (at_builtin; refine wpList_append_lies _ rfl _ _ 44 rfl w.heap.size 5 i0 (.int .u8 0) 1 1 Tryd.underlying44 hi hz0 hz1 hz2 rfl (by decide) _ _ _ rfl (hown4.alloc _) ⟨w4.heap.size, 0, none⟩ 5 5 [B8 48, B8 48, B8 48, B8 48, B8 48] rfl rfl (lit_newF w4 [B8 48, B8 48, B8 48, B8 48, B8 48] _ _) (bytes_one [48, 48, 48, 48, 48]) (by decide) (by unfold maxLen; simp) (by simp) (by simp; omega) _ rfl ?_)
        intro g5 cap5 w5 hownn hgrow _ _
        have hb5 : Below w.heap.size w w5 := app_below hb4 hsz4 hown4 hgrow
        have hsz5 := hb5.size
        generalize Value.slice (some ⟨g5, 0, none⟩) _ cap5 = vv5 at *
        have hown5 : w5.ownsRow w.heap.size 5 1 vv5 ([a0, a1, a2, a3, a4, 48, 48, 48, 48, 48] : List UInt8).length (([a0, a1, a2, a3, a4, 48, 48, 48, 48, 48] : List UInt8).map B8) := hownn
        clear hgrow hownn hown4 hb4 hsz4
        go_wp2_with (at_builtin; refine wpList_append_lies _ rfl _ _ 44 rfl w.heap.size 5 i0 (.int .u8 0) 1 1 Tryd.underlying44 hi hz0 hz1 hz2 rfl (by decide) _ _ _ rfl (hown5.alloc _) ⟨w5.heap.size, 0, none⟩ 1 1 [B8 a5] rfl rfl (one_new w5 _ _) (bytes_one [a5]) (by decide) (by unfold maxLen; simp) (by simp) (by simp; omega) _ rfl ?_)
        intro g6 cap6 w6 hownn hgrow _ _
        have hb6 : Below w.heap.size w w6 := app_below hb5 hsz5 hown5 hgrow
        have hsz6 := hb6.size
        generalize Value.slice (some ⟨g6, 0, none⟩) _ cap6 = vv6 at *
        have hown6 : w6.ownsRow w.heap.size 5 1 vv6 ([a0, a1, a2, a3, a4, 48, 48, 48, 48, 48, a5] : List UInt8).length (([a0, a1, a2, a3, a4, 48, 48, 48, 48, 48, a5] : List UInt8).map B8) := hownn
        clear hgrow hownn hown5 hb5 hsz5
        go_wp2_with (at_builtin; refine wpList_append_lies _ rfl _ _ 44 rfl w.heap.size 5 i0 (.int .u8 0) 1 1 Tryd.underlying44 hi hz0 hz1 hz2 rfl (by decide) _ _ _ rfl (hown6.alloc _) ⟨w6.heap.size, 0, none⟩ 1 1 [B8 a7] rfl rfl (one_new w6 _ _) (bytes_one [a7]) (by decide) (by unfold maxLen; simp) (by simp) (by simp; omega) _ rfl ?_)
        intro g7 cap7 w7 hownn hgrow _ _
        have hb7 : Below w.heap.size w w7 := app_below hb6 hsz6 hown6 hgrow
        have hsz7 := hb7.size
        generalize Value.slice (some ⟨g7, 0, none⟩) _ cap7 = vv7 at *
        have hown7 : w7.ownsRow w.heap.size 5 1 vv7 ([a0, a1, a2, a3, a4, 48, 48, 48, 48, 48, a5, a7] : List UInt8).length (([a0, a1, a2, a3, a4, 48, 48, 48, 48, 48, a5, a7] : List UInt8).map B8) := hownn
        clear hgrow hownn hown6 hb6 hsz6
        have hcv : ∃ W : Value, W = vv7 ∧ (convert 44 9 W).run Tryd.prog w7 = .ok (.string ⟨([a0, a1, a2, a3, a4, 48, 48, 48, 48, 48, a5, a7] : List UInt8).toArray⟩) w7 := by
          refine ⟨vv7, rfl, ?_⟩
          obtain ⟨g, cap, rfl, _, _⟩ := own_slice hown7 (by simp)
          exact conv_own (P := Tryd.prog) Tryd.underlying44 Tryd.underlying5 Tryd.underlying9 hown7
        obtain ⟨W, rfl, hcv⟩ := hcv
        have hb := hb7
        clear hown7 hsz7 hb7
        have HRES : Hid (bl (⟨([a0, a1, a2, a3, a4, 48, 48, 48, 48, 48, a5, a7] : List UInt8).toArray⟩ : ByteArray) = wideE [a0, a1, a2, a3, a4, a5, a6] ++ [a7]) := Lib.hid (by
          rw [bl_mk]; rw [wideE_3 (show ¬ (nthU [a0, a1, a2, a3, a4, a5, a6] 6).toNat ≤ 50 from c1) c2 C3.out]; rfl)
        go_wp2
        go_ret
        exact ⟨⟨_, rfl, HRES.out⟩, hb⟩
      · have q52 : ((a6.toNat : Int) == 52) = false := by rw [beq_eq_false_iff_ne]; omega
        have hx3 : bl (D.extract 0 5) = [a1, a2, a3, a4, a5] := by rw [bl_extract, HD.out]; rfl
        have HX3 := Lib.hid hx3
        have hxs3 : (D.extract 0 5).size = ([a1, a2, a3, a4, a5] : List UInt8).length := by rw [← bl_length, hx3]
        have HXS3 := Lib.hid hxs3
        clear hx3 hxs3
        go_wp2_with (at_builtin; refine Lib.wpList_append_own_string _ rfl _ _ 44 9 rfl w.heap.size 5 i0 Tryd.underlying44 Tryd.underlying9 hi hz0 hz1 hz2 _ _ _ rfl hown3 (D.extract 0 5) rfl (by rw [HXS3.out]; unfold maxLen; simp) (by rw [HXS3.out]; simp) hsz3 ?_)
        intro vv4 w4 hownn hgrow _
        have hb4 : Below w.heap.size w w4 := app_below0 hb3 hsz3 hown3 hgrow
        have hsz4 := hb4.size
        have hown4 : w4.ownsRow w.heap.size 5 1 vv4 ([a0, a1, a2, a3, a4, a5] : List UInt8).length (([a0, a1, a2, a3, a4, a5] : List UInt8).map B8) := by
          have h9 := hownn
          rw [strCells_bl, HX3.out] at h9
          exact h9
        clear hgrow hownn hown3 hb3 hsz3 HX3 HXS3
        go_wp2_with (at_builtin; refine wpList_append_lies _ rfl _ _ 44 rfl w.heap.size 5 i0 (.int .u8 0) 1 1 Tryd.underlying44 hi hz0 hz1 hz2 rfl (by decide) _ _ _ rfl (hown4.alloc _) ⟨w4.heap.size, 0, none⟩ 4 4 [B8 48, B8 48, B8 48, B8 48] rfl rfl (lit_newF w4 [B8 48, B8 48, B8 48, B8 48] _ _) (bytes_one [48, 48, 48, 48]) (by decide) (by unfold maxLen; simp) (by simp) (by simp; omega) _ rfl ?_)
        intro g5 cap5 w5 hownn hgrow _ _
        have hb5 : Below w.heap.size w w5 := app_below hb4 hsz4 hown4 hgrow
        have hsz5 := hb5.size
        generalize Value.slice (some ⟨g5, 0, none⟩) _ cap5 = vv5 at *
        have hown5 : w5.ownsRow w.heap.size 5 1 vv5 ([a0, a1, a2, a3, a4, a5, 48, 48, 48, 48] : List UInt8).length (([a0, a1, a2, a3, a4, a5, 48, 48, 48, 48] : List UInt8).map B8) := hownn
        clear hgrow hownn hown4 hb4 hsz4
        go_wp2_with (at_builtin; refine wpList_append_lies _ rfl _ _ 44 rfl w.heap.size 5 i0 (.int .u8 0) 1 1 Tryd.underlying44 hi hz0 hz1 hz2 rfl (by decide) _ _ _ rfl (hown5.alloc _) ⟨w5.heap.size, 0, none⟩ 1 1 [B8 a6] rfl rfl (one_new w5 _ _) (bytes_one [a6]) (by decide) (by unfold maxLen; simp) (by simp) (by simp; omega) _ rfl ?_)
        intro g6 cap6 w6 hownn hgrow _ _
        have hb6 : Below w.heap.size w w6 := app_below hb5 hsz5 hown5 hgrow
        have hsz6 := hb6.size
        generalize Value.slice (some ⟨g6, 0, none⟩) _ cap6 = vv6 at *
        have hown6 : w6.ownsRow w.heap.size 5 1 vv6 ([a0, a1, a2, a3, a4, a5, 48, 48, 48, 48, a6] : List UInt8).length (([a0, a1, a2, a3, a4, a5, 48, 48, 48, 48, a6] : List UInt8).map B8) := hownn
        clear hgrow hownn hown5 hb5 hsz5
        go_wp2_with (at_builtin; refine wpList_append_lies _ rfl _ _ 44 rfl w.heap.size 5 i0 (.int .u8 0) 1 1 Tryd.underlying44 hi hz0 hz1 hz2 rfl (by decide) _ _ _ rfl (hown6.alloc _) ⟨w6.heap.size, 0, none⟩ 1 1 [B8 a7] rfl rfl (one_new w6 _ _) (bytes_one [a7]) (by decide) (by unfold maxLen; simp) (by simp) (by simp; omega) _ rfl ?_)
        intro g7 cap7 w7 hownn hgrow _ _
        have hb7 : Below w.heap.size w w7 := app_below hb6 hsz6 hown6 hgrow
        have hsz7 := hb7.size
        generalize Value.slice (some ⟨g7, 0, none⟩) _ cap7 = vv7 at *
        have hown7 : w7.ownsRow w.heap.size 5 1 vv7 ([a0, a1, a2, a3, a4, a5, 48, 48, 48, 48, a6, a7] : List UInt8).length (([a0, a1, a2, a3, a4, a5, 48, 48, 48, 48, a6, a7] : List UInt8).map B8) := hownn
        clear hgrow hownn hown6 hb6 hsz6
        have hcv : ∃ W : Value, W = vv7 ∧ (convert 44 9 W).run Tryd.prog w7 = .ok (.string ⟨([a0, a1, a2, a3, a4, a5, 48, 48, 48, 48, a6, a7] : List UInt8).toArray⟩) w7 := by
          refine ⟨vv7, rfl, ?_⟩
          obtain ⟨g, cap, rfl, _, _⟩ := own_slice hown7 (by simp)
          exact conv_own (P := Tryd.prog) Tryd.underlying44 Tryd.underlying5 Tryd.underlying9 hown7
        obtain ⟨W, rfl, hcv⟩ := hcv
        have hb := hb7
        clear hown7 hsz7 hb7
        have HRES : Hid (bl (⟨([a0, a1, a2, a3, a4, a5, 48, 48, 48, 48, a6, a7] : List UInt8).toArray⟩ : ByteArray) = wideE [a0, a1, a2, a3, a4, a5, a6] ++ [a7]) := Lib.hid (by
          rw [bl_mk]; rw [wideE_4 (show ¬ (nthU [a0, a1, a2, a3, a4, a5, a6] 6).toNat ≤ 50 from c1) c2 c3]; rfl)
        go_wp2
        go_ret
        exact ⟨⟨_, rfl, HRES.out⟩, hb⟩
end Go.Proofs.YtpgddedhhjbgoaaDoor
