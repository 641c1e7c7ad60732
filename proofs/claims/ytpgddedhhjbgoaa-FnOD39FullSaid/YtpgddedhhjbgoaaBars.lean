/- Walks: spec.ODBars. -/
import Derived.Test.YtpgddedhhjbgoaaElem
import Derived.Test.YtpgddedhhjbgoaaProg
namespace Go.Proofs.Ytpgddedhhjbgoaa
open Go.RowKit


set_option maxHeartbeats 1000000 in
theorem ODBars_any (ws : List Nat) (v : Value) (w : World) (h1 : SlAt w v (ws.map I64)) (hm : ∀ x ∈ ws, x ≤ 20) (hl : ws.length ≤ 1000000) :
    Calls Try.prog 25 #[v] w fun e w' =>
      ∃ v', e = .returned v' ∧ w'.ownsRow w.heap.size 4 1 v' (bars ws).length ((bars ws).map .bool) ∧ Below w.heap.size w w' := by
  obtain ⟨i0, hi, hz0, hz1, hz2⟩ := info_parts info_bool
  obtain ⟨a1, c1, rfl, hm1⟩ := h1.form
  have H1 := Lib.hid h1
  clear h1
  simp only [List.length_map] at hm1 ⊢
  go_enter Try.func25, Try.ntmps25
  go_wp2
  go_loopw [3, 4, 5] (fun o i k wr => ∃ n : Nat, n ≤ ws.length ∧ i = .int .i64 n ∧ wr.ownsRow w.heap.size 4 1 o (bars (ws.take n)).length ((bars (ws.take n)).map .bool) ∧ Below w.heap.size w wr) (fun _ i _ _ => ws.length - (intOf i).toNat)
  case atStart => exact ⟨0, Nat.zero_le _, rfl, World.ownsRow_nil _ _ _ _, Below.refl _ _⟩
  case round =>
    obtain ⟨n, hn, rfl, hown, hb⟩ := hrel
    by_cases hlt : n < ws.length
    · obtain ⟨c, hc⟩ : ∃ c, ((n : Int) % 2 == 0) = c := ⟨_, rfl⟩
      have hcd : decide (n % 2 = 0) = c := by
        rw [← hc]; by_cases hp : n % 2 = 0
        · simp [hp]; omega
        · simp [hp]; omega
      have hsn := Lib.hid (bars_snoc ws n hlt)
      rw [hcd] at hsn
      have hb20 : nth ws n ≤ 20 := nth_le hm n
      obtain ⟨x, hx⟩ : ∃ x, x = nth ws n := ⟨_, rfl⟩
      have hL := bars_length_le (ws.take n) 20 (fun y hy => hm y (List.mem_of_mem_take hy))
      have hLt : (ws.take n).length = n := by rw [List.length_take]; omega
      rw [hLt] at hL
      rw [← hx] at hsn hb20
      have HX := Lib.hid hx
      clear hx hLt hcd
      go_wp2
      obtain ⟨wo, rfl⟩ : ∃ wo : World, wo = wr := ⟨_, rfl⟩
      go_loopw [3, 5] (fun o k wr => ∃ j : Nat, j ≤ x ∧ k = .int .i64 j ∧ wr.ownsRow w.heap.size 4 1 o (bars (ws.take n) ++ List.replicate j c).length ((bars (ws.take n) ++ List.replicate j c).map .bool) ∧ Below w.heap.size w wr) (fun _ k _ => x - (intOf k).toNat)
      case atStart => exact ⟨0, Nat.zero_le _, rfl, by simpa using hown, hb⟩
      case round =>
        clear hown hb
        obtain ⟨j, hj, rfl, hown, hb⟩ := hrel
        obtain ⟨b, o, rfl, hcell⟩ := (H1.out.below' hb).getI n hlt
        rw [← HX.out] at hcell
        by_cases hjx : j < x
        · have hrep : Hid ((bars (ws.take n) ++ List.replicate j c).map Value.bool ++ [.bool c] = (bars (ws.take n) ++ List.replicate (j + 1) c).map Value.bool) := Lib.hid (by rw [List.replicate_succ']; simp)
          have hlen : Hid ((bars (ws.take n) ++ List.replicate j c).length + 1 = (bars (ws.take n) ++ List.replicate (j + 1) c).length) := Lib.hid (by simp; omega)
          have hlj : (bars (ws.take n) ++ List.replicate j c).length ≤ 30000000 := by simp; omega
          generalize hXS : bars (ws.take n) ++ List.replicate j c = XS at *
          have HXS := Lib.hid hXS
          clear hXS
          go_wp2_with (at_builtin; refine wpList_append_own _ rfl _ _ 24 rfl w.heap.size 4 i0 (.bool false) 1 1 Try.underlying24 hi hz0 hz1 hz2 rfl (by decide) _ _ _ rfl (hown.alloc _) ⟨wr.heap.size, 0, none⟩ 1 1 [.bool c] rfl rfl ?c1 ?c2 ?c3 ?c4 ?c5 ?_)
          case c1 => exact one_new _ _ _
          case c2 => intro u hu; simp at hu; subst hu; rfl
          case c3 => unfold maxLen; omega
          case c4 => omega
          case c5 => have := hb.size; simp; omega
          · intro v' w2 hown' hgrow _
            have hb' : Below w.heap.size w w2 := app_below hb hb.size hown hgrow
            rw [hlen.out, hrep.out] at hown'
            clear hgrow hown hb
            go_wp2
            go_roundw
            case rel => exact ⟨j + 1, by omega, by go_num, hown', hb'⟩
            case measure => simp [intOf]; omega
        · have hjx' : Hid (bars (ws.take n) ++ List.replicate j c = bars (ws.take (n + 1))) := Lib.hid (by rw [hsn.out, show j = x by omega])
          rw [hjx'.out] at hown
          go_wp2
          go_roundw
          case rel => exact ⟨n + 1, by omega, by go_num, hown, hb⟩
          case measure => simp [intOf]; omega
    · have hn' : Hid (ws.take n = ws) := Lib.hid (List.take_of_length_le (by omega))
      rw [hn'.out] at hown
      go_wp2
      go_ret
      exact ⟨_, rfl, hown, hb⟩
end Go.Proofs.Ytpgddedhhjbgoaa
