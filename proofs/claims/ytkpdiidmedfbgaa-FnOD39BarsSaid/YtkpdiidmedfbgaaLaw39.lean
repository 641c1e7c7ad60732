/- Walks: impl.OD39Bars, laws.FnOD39Bars. -/
import Derived.Test.Ytkpdiidmedfbgaa39S
import Derived.Test.Ytkpdiidmedfbgaa39E
import Derived.Test.YtkpdiidmedfbgaaDrawn
import Derived.Test.YtkpdiidmedfbgaaSame
namespace Go.Proofs.Ytkpdiidmedfbgaa
open Go.RowKit

set_option maxHeartbeats 1000000 in
set_option maxRecDepth 100000 in
theorem OD39Bars_long (s : ByteArray) (w : World) (hs : s.size ≤ 1000000) (h : 80 < s.size) :
    Calls Try.prog 18 #[.string s] w fun e w' => e = .returned (.tuple #[.slice none 0 0, .bool false]) ∧ Below w.heap.size w w' := by
  go_enter Try.func18, Try.ntmps18
  go_wp2_with (first | (go_at_call 53; refine (enc39_long s _ hs h _).mono ?_; rintro e w1 ⟨⟨u, y, rfl⟩, hb1⟩) | (go_at_call 29; refine (drawn_bad _ _ _ _).mono ?_; rintro e w2 ⟨rfl, rfl⟩) | go_in)
  go_ret2
  exact ⟨rfl, Below.two (by go_grown) hb1 (by simp <;> omega)⟩
set_option maxHeartbeats 1000000 in
set_option maxRecDepth 100000 in
theorem OD39Bars_ok (s : ByteArray) (w : World) (hs : s.size ≤ 80) (hd : ∀ i, i < s.size → nthU (bl s) i ∈ signs39) :
    Calls Try.prog 18 #[.string s] w fun e w' => (∃ v, e = .returned (.tuple #[v, .bool true]) ∧ w'.ownsRow w.heap.size 4 1 v (bars (widths39 (bl s))).length ((bars (widths39 (bl s))).map .bool)) ∧ Below w.heap.size w w' := by
  have HD := Lib.hid hd
  clear hd
  have hl := bars_length_le (widths39 (bl s)) 20 (widths39_le _)
  rw [widths39_length, bl_length] at hl
  have hp : 0 < (bars (widths39 (bl s))).length := by
    rw [m39_end, List.length_append, barsFrom_length]
    show 0 < _ + 12; omega
  go_enter Try.func18, Try.ntmps18
  go_wp2_with (first | (go_at_call 53; refine (enc39_ok s _ hs HD.out _).mono ?_; rintro e w1 ⟨⟨v, rfl, hown⟩, hb1⟩) | (go_at_call 29; refine (drawn_ok _ _ _ _ hown (by omega) hp).mono ?_; rintro e w2 ⟨⟨v2, rfl, hown2⟩, hb2⟩) | go_in)
  go_ret2
  have hb3 : Below w.heap.size w w1 := Below.two (by go_grown) hb1 (by simp <;> omega)
  exact ⟨⟨_, rfl, own_mono hown2 hb3.size⟩, Below.two hb3 hb2 hb3.size⟩

theorem odSome_mem {signs cs : List UInt8} {n : Nat} (hs : 0 < signs.length) : ∀ c ∈ odSome signs cs n, c ∈ signs := by
  intro c hc
  obtain ⟨x, _, rfl⟩ := List.mem_map.1 hc
  have := Nat.mod_lt x.toNat hs
  rw [nthU_eq this]; exact List.getElem_mem this
theorem all_of_mem {s : ByteArray} {P : UInt8 → Prop} (h : ∀ c ∈ bl s, P c) : ∀ i, i < s.size → P (nthU (bl s) i) := fun i hi => by
  have hi' : i < (bl s).length := by rw [bl_length]; exact hi
  rw [nthU_eq hi']; exact h _ (List.getElem_mem hi')

set_option maxHeartbeats 4000000 in
set_option maxRecDepth 100000 in
theorem law39Bars (cs : List UInt8) (v : Value) (w : World) (h1 : SlAt w v (cs.map B8)) :
    Calls Try.prog 5 #[v] w fun e w' => e = .returned (.bool true) ∧ Below w.heap.size w w' := by
  obtain ⟨a1, c1, rfl, hm1⟩ := h1.form
  simp only [List.length_map] at hm1 ⊢
  by_cases hbig : cs.length > 2147483647
  · clear h1
    go_enter Try.func5, Try.ntmps5
    go_wp2
    go_ret
    exact ⟨rfl, Below.refl _ _⟩
  · go_enter Try.func5, Try.ntmps5
    go_wp2_with fail
    refine (ODSome_any signs39B (by decide) (by decide) cs _ _ 80 (by omega) (by simpa using h1)).mono ?_
    rintro e w1 ⟨⟨r, rfl, hr⟩, rfl⟩
    have hle : r.size ≤ 80 := by rw [← bl_length, hr, odSome_length]; omega
    have hd : ∀ c ∈ bl r, c ∈ signs39 := by rw [hr]; exact odSome_mem (by decide)
    have HD := Lib.hid (all_of_mem hd)
    clear hd hr h1
    by_cases h0 : r.size = 0
    · have hemp : r.toList = [] := by rw [ByteArray.toList_eq]; exact List.eq_nil_of_length_eq_zero (by simpa using h0)
      go_wp2
      go_ret
      exact ⟨rfl, Below.refl _ _⟩
    · have hpos : 1 ≤ r.size := by omega
      have hemp : r.toList.isEmpty = false := by
        rw [ByteArray.toList_eq, List.isEmpty_eq_false_iff, ← List.length_pos_iff]; show 0 < (bl r).length; rw [bl_length]; omega
      clear h0
      go_wp2_with fail
      refine (OD39Bars_ok r _ hle HD.out).mono ?_
      rintro e w2 ⟨⟨v2, rfl, hown2⟩, hb2⟩
      go_wp2
      go_loop [6] (fun l => ∃ L : ByteArray, l = .string L ∧ L.size ≤ 200 ∧ 1 ≤ L.size) (fun l => match l with | .string L => 81 - L.size | _ => 0)
      case atStart => exact ⟨r, rfl, by omega, hpos⟩
      case round =>
        obtain ⟨L, rfl, hL1, hL2⟩ := hrel
        by_cases hL : L.size < 81
        · go_wp2
          go_round
          case rel => exact ⟨_, rfl, by rw [ByteArray.size_append']; omega, by rw [ByteArray.size_append']; omega⟩
          case measure => simp; omega
        · go_wp2_with fail
          refine (OD39Bars_long L _ (by omega) (by omega)).mono ?_
          rintro e w3 ⟨rfl, hb3⟩
          have hb3' := Below.two hb2 hb3 hb2.size
          have hs3 := (SlAt.of_own hown2).below' hb3
          clear hb2 hb3 hown2
          go_wp2_with fail
          refine (OD39_any r _ (by omega) HD.out).mono ?_
          rintro e w7 ⟨v7, rfl, hown7, hb7⟩
          have hs7 := SlAt.of_own hown7
          have hs67 := hs3.below' hb7
          have hb7w := Below.two hb3' hb7 hb3'.size
          clear hb7 hs3 hb3' hown7
          go_wp2_with fail
          refine (ODSame_any _ _ _ _ _ hs67 hs7).mono ?_
          rintro e w8 ⟨rfl, n, rfl⟩
          have hb8 := below_drewN' hb7w n
          simp only [decide_true]
          clear hs67 hs7 hb7w
          go_wp2
          go_ret
          exact ⟨rfl, hb8⟩
end Go.Proofs.Ytkpdiidmedfbgaa
