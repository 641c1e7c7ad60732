/- Walks: impl.drawn, both ways. -/
import Derived.Test.YtpgddedhhjbgoaaDoorElem
namespace Go.Proofs.YtpgddedhhjbgoaaDoor
open Go.RowKit

set_option maxHeartbeats 1000000 in
set_option maxRecDepth 100000 in
theorem drawn_bad (v : Value) (u : TypeId) (x : Value) (w : World) :
    Calls Tryd.prog 15 #[v, .iface u x] w fun e w' => e = .returned (.tuple #[.slice none 0 0, .bool false]) ∧ w' = w := by
  go_enter Tryd.func15, Tryd.ntmps15
  go_wp2
  go_ret2
  exact ⟨rfl, rfl⟩
set_option maxHeartbeats 1000000 in
set_option maxRecDepth 100000 in
theorem drawn_ok (v : Value) (xs : List Bool) (w : World) (base : Nat) (h : w.ownsRow base 4 1 v xs.length (xs.map .bool)) (hl : xs.length ≤ 100000000) (hpos : 0 < xs.length) :
    Calls Tryd.prog 15 #[v, .nilIface] w fun e w' => (∃ v', e = .returned (.tuple #[v', .bool true]) ∧ w'.ownsRow w.heap.size 4 1 v' xs.length (xs.map .bool)) ∧ Below w.heap.size w w' := by
  obtain ⟨j0, hj, hy0, hy1, hy2⟩ := info_parts info_bool
  obtain ⟨g, cap, rfl, hg1, hg2⟩ := own_slice h hpos
  have hc := h.cells (g := g) rfl
  have hnil := World.ownsRow_nil w w.heap.size 4 1
  go_enter Tryd.func15, Tryd.ntmps15
  go_wp2_with (at_builtin; refine wpList_append_lies _ rfl _ _ 24 rfl w.heap.size 4 j0 (.bool false) 1 1 Tryd.underlying24 hj hy0 hy1 hy2 rfl (by decide) _ 0 [] rfl hnil ⟨g, 0, none⟩ xs.length cap (xs.map .bool) rfl (by simp) hc ?c2 ?c0 ?c3 ?c4 ?c5 _ rfl ?_)
  case c2 => exact bools_one xs
  case c0 => exact hpos
  case c3 => unfold maxLen; omega
  case c4 => omega
  case c5 => exact Nat.le_refl _
  intro g' cap' w1 hown hgrow _ _
  have hb : Below w.heap.size w w1 := below_of_grown hgrow (Nat.le_refl _) (fun k hk => by cases hk)
  clear hgrow
  go_wp2
  go_ret2
  exact ⟨⟨_, rfl, hown⟩, hb⟩
end Go.Proofs.YtpgddedhhjbgoaaDoor
