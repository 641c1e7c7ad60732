/- Walks: impl.ODItfBars, both ways. -/
import Derived.Test.YtkpdiidmedfbgaaItfE
import Derived.Deep.AppendLies
namespace Go.Proofs.Ytkpdiidmedfbgaa
open Go.RowKit

set_option maxHeartbeats 1000000 in
set_option maxRecDepth 100000 in
theorem drawn_bad (v : Value) (u : TypeId) (x : Value) (w : World) :
    Calls Try.prog 29 #[v, .iface u x] w fun e w' => e = .returned (.tuple #[.slice none 0 0, .bool false]) ∧ w' = w := by
  go_enter Try.func29, Try.ntmps29
  go_wp2
  go_ret2
  exact ⟨rfl, rfl⟩
set_option maxHeartbeats 1000000 in
set_option maxRecDepth 100000 in
theorem drawn_ok (v : Value) (xs : List Bool) (w : World) (base : Nat) (h : w.ownsRow base 4 1 v xs.length (xs.map .bool)) (hl : xs.length ≤ 100000000) (hpos : 0 < xs.length) :
    Calls Try.prog 29 #[v, .nilIface] w fun e w' => (∃ v', e = .returned (.tuple #[v', .bool true]) ∧ w'.ownsRow w.heap.size 4 1 v' xs.length (xs.map .bool)) ∧ Below w.heap.size w w' := by
  obtain ⟨j0, hj, hy0, hy1, hy2⟩ := info_parts info_bool
  obtain ⟨g, cap, rfl, hg1, hg2⟩ := own_slice h hpos
  have hc := h.cells (g := g) rfl
  have hnil := World.ownsRow_nil w w.heap.size 4 1
  go_enter Try.func29, Try.ntmps29
  go_wp2_with (at_builtin; refine wpList_append_lies _ rfl _ _ 24 rfl w.heap.size 4 j0 (.bool false) 1 1 Try.underlying24 hj hy0 hy1 hy2 rfl (by decide) _ 0 [] rfl hnil ⟨g, 0, none⟩ xs.length cap (xs.map .bool) rfl (by simp) hc ?c2 ?c0 ?c3 ?c4 ?c5 _ rfl ?_)
  case c2 => exact bools_one xs
  case c0 => exact hpos
  case c3 => unfold maxLen; omega
  case c4 => omega
  case c5 => exact Nat.le_refl _
  intro g' cap' w1 hown hgrow _ _
  have hb : Below w.heap.size w w1 := below_of_grown hgrow (Nat.le_refl _) (fun k hk => by cases hk)
  clear hgrow
  go_wp2
  go_ret2
  exact ⟨⟨_, rfl, hown⟩, hb⟩

set_option maxHeartbeats 1000000 in
set_option maxRecDepth 100000 in
theorem ODItfBars_bad (s : ByteArray) (w : World) (hs : s.size ≤ 1000000) (h : s.size % 2 = 1 ∨ 80 < s.size ∨ ((∀ i, i < s.size → (nthU (bl s) i).toNat < 128) ∧ ¬ allDig s)) :
    Calls Try.prog 11 #[.string s] w fun e w' => e = .returned (.tuple #[.slice none 0 0, .bool false]) ∧ Below w.heap.size w w' := by
  have H := Lib.hid h
  clear h
  go_enter Try.func11, Try.ntmps11
  go_wp2_with (first | (go_at_call 51; refine (itfEnc_bad s _ hs H.out _).mono ?_; rintro e w1 ⟨⟨u, y, rfl⟩, hb1⟩) | (go_at_call 29; refine (drawn_bad _ _ _ _).mono ?_; rintro e w2 ⟨rfl, rfl⟩) | go_in)
  go_ret2
  exact ⟨rfl, Below.two (by go_grown) hb1 (by simp <;> omega)⟩
set_option maxHeartbeats 1000000 in
set_option maxRecDepth 100000 in
theorem ODItfBars_ok (s : ByteArray) (w : World) (hs : s.size ≤ 80) (hev : s.size % 2 = 0) (hd : allDig s) :
    Calls Try.prog 11 #[.string s] w fun e w' => (∃ v, e = .returned (.tuple #[v, .bool true]) ∧ w'.ownsRow w.heap.size 4 1 v (bars (itfWidths (bl s))).length ((bars (itfWidths (bl s))).map .bool)) ∧ Below w.heap.size w w' := by
  have HD := Lib.hid hd
  clear hd
  have hl := bars_length_le (itfWidths (bl s)) 20 (itfWidths_le _)
  rw [itfWidths_length, bl_length] at hl
  have hp : 0 < (bars (itfWidths (bl s))).length := by show 0 < (barsFrom true (1 :: _)).length; simp [barsFrom]
  go_enter Try.func11, Try.ntmps11
  go_wp2_with (first | (go_at_call 51; refine (itfEnc_ok s _ hs hev HD.out _).mono ?_; rintro e w1 ⟨⟨v, rfl, hown⟩, hb1⟩) | (go_at_call 29; refine (drawn_ok _ _ _ _ hown (by omega) hp).mono ?_; rintro e w2 ⟨⟨v2, rfl, hown2⟩, hb2⟩) | go_in)
  go_ret2
  have hb3 : Below w.heap.size w w1 := Below.two (by go_grown) hb1 (by simp <;> omega)
  exact ⟨⟨_, rfl, own_mono hown2 hb3.size⟩, Below.two hb3 hb2 hb3.size⟩
end Go.Proofs.Ytkpdiidmedfbgaa
