/- Walks: impl.OD39Bars. -/
import Derived.Test.Ytpgddedhhjbgoaa39S
import Derived.Test.Ytpgddedhhjbgoaa39E
import Derived.Test.YtpgddedhhjbgoaaDrawn
import Derived.Test.YtpgddedhhjbgoaaSame
namespace Go.Proofs.Ytpgddedhhjbgoaa
open Go.RowKit

set_option maxHeartbeats 1000000 in
set_option maxRecDepth 100000 in
theorem OD39Bars_long (s : ByteArray) (w : World) (hs : s.size ≤ 1000000) (h : 80 < s.size) :
    Calls Try.prog 8 #[.string s] w fun e w' => e = .returned (.tuple #[.slice none 0 0, .bool false]) ∧ Below w.heap.size w w' := by
  go_enter Try.func8, Try.ntmps8
  go_wp2_with (first | (go_at_call 37; refine (enc39_long s _ hs h _).mono ?_; rintro e w1 ⟨⟨u, y, rfl⟩, hb1⟩) | (go_at_call 20; refine (drawn_bad _ _ _ _).mono ?_; rintro e w2 ⟨rfl, rfl⟩) | go_in)
  go_ret2
  exact ⟨rfl, Below.two (by go_grown) hb1 (by simp <;> omega)⟩
set_option maxHeartbeats 1000000 in
set_option maxRecDepth 100000 in
theorem OD39Bars_ok (s : ByteArray) (w : World) (hs : s.size ≤ 80) (hd : ∀ i, i < s.size → nthU (bl s) i ∈ signs39) :
    Calls Try.prog 8 #[.string s] w fun e w' => (∃ v, e = .returned (.tuple #[v, .bool true]) ∧ w'.ownsRow w.heap.size 4 1 v (bars (widths39 (bl s))).length ((bars (widths39 (bl s))).map .bool)) ∧ Below w.heap.size w w' := by
  have HD := Lib.hid hd
  clear hd
  have hl := bars_length_le (widths39 (bl s)) 20 (widths39_le _)
  rw [widths39_length, bl_length] at hl
  have hp : 0 < (bars (widths39 (bl s))).length := by
    rw [m39_end, List.length_append, barsFrom_length]
    show 0 < _ + 12; omega
  go_enter Try.func8, Try.ntmps8
  go_wp2_with (first | (go_at_call 37; refine (enc39_ok s _ hs HD.out _).mono ?_; rintro e w1 ⟨⟨v, rfl, hown⟩, hb1⟩) | (go_at_call 20; refine (drawn_ok _ _ _ _ hown (by omega) hp).mono ?_; rintro e w2 ⟨⟨v2, rfl, hown2⟩, hb2⟩) | go_in)
  go_ret2
  have hb3 : Below w.heap.size w w1 := Below.two (by go_grown) hb1 (by simp <;> omega)
  exact ⟨⟨_, rfl, own_mono hown2 hb3.size⟩, Below.two hb3 hb2 hb3.size⟩

theorem odSome_mem {signs cs : List UInt8} {n : Nat} (hs : 0 < signs.length) : ∀ c ∈ odSome signs cs n, c ∈ signs := by
  intro c hc
  obtain ⟨x, _, rfl⟩ := List.mem_map.1 hc
  have := Nat.mod_lt x.toNat hs
  rw [nthU_eq this]; exact List.getElem_mem this
theorem all_of_mem {s : ByteArray} {P : UInt8 → Prop} (h : ∀ c ∈ bl s, P c) : ∀ i, i < s.size → P (nthU (bl s) i) := fun i hi => by
  have hi' : i < (bl s).length := by rw [bl_length]; exact hi
  rw [nthU_eq hi']; exact h _ (List.getElem_mem hi')
end Go.Proofs.Ytpgddedhhjbgoaa
