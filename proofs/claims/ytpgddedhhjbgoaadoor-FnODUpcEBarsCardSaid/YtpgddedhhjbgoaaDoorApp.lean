/- Walks: oned.onedWriter_appendPattern. -/
import Derived.Test.YtpgddedhhjbgoaaDoorElem
namespace Go.Proofs.YtpgddedhhjbgoaaDoor
open Go.RowKit

set_option maxHeartbeats 2000000 in
set_option maxRecDepth 100000 in
theorem appendPattern_any (g n cap base : Nat) (L : List Bool) (ws : List Nat) (vp : Value) (p : Int) (c0 : Bool) (w : World)
    (hown : w.ownsRow base 4 1 (.slice (some ⟨g, 0, none⟩) n cap) n (fillB n L)) (hp : p = (L.length : Int)) (h1 : SlAt w vp (ws.map I64)) (hpg : vp.ownBlock ≠ some g)
    (hfit : L.length + ws.sum ≤ n) (hn : n ≤ 100000000) :
    Calls Tryd.prog 35 #[.slice (some ⟨g, 0, none⟩) n cap, .int .i64 p, vp, .bool c0] w fun e w' =>
      e = .returned (.int .i64 ws.sum) ∧ w'.ownsRow base 4 1 (.slice (some ⟨g, 0, none⟩) n cap) n (fillB n (L ++ barsFrom c0 ws)) ∧ w.grownBy w' (some g) := by
  subst hp
  obtain ⟨a1, c1, rfl, hm1⟩ := h1.form
  simp only [List.length_map] at hm1 ⊢
  have H1 := Lib.hid h1
  have HPG := Lib.hid hpg
  clear h1 hpg
  go_enter Tryd.func35, Tryd.ntmps35
  go_wp2
  go_loopw [1, 9, 10, 12, 13, 17] (fun p c a l j i wr => ∃ k : Nat, k ≤ ws.length ∧ i = .int .i64 k ∧ p = .int .i64 ((L ++ barsFrom c0 (ws.take k)).length : Int) ∧ c = .bool (colour c0 k) ∧ a = .int .i64 ((ws.take k).sum : Int) ∧ wr.ownsRow base 4 1 (.slice (some ⟨g, 0, none⟩) n cap) n (fillB n (L ++ barsFrom c0 (ws.take k))) ∧ w.grownBy wr (some g)) (fun _ _ _ _ _ i _ => ws.length - (intOf i).toNat)
  case atStart => exact ⟨0, Nat.zero_le _, rfl, by simp [barsFrom], by simp [colour], by simp, by simpa [barsFrom] using hown, World.grownBy.refl _ _⟩
  case round =>
    clear hown
    obtain ⟨k, hk, rfl, rfl, rfl, rfl, hown, hg⟩ := hrel
    by_cases hlt : k < ws.length
    · obtain ⟨b, o, rfl, hcell⟩ := (H1.out.grown hg (fun k' hk' e => HPG.out (by rw [← e, hk']))).getI k hlt
      have hsum := sum_snoc ws k hlt
      have hsle := sum_take_le ws (k + 1)
      have hbs := Lib.hid (barsFrom_snoc c0 ws k hlt)
      have hcs := Lib.hid (colour_next c0 k)
      have hblen : (barsFrom c0 (ws.take k)).length = (ws.take k).sum := barsFrom_length _ _
      generalize colour c0 k = C at *
      generalize hx : nth ws k = x at *
      generalize hXS : L ++ barsFrom c0 (ws.take k) = XS at *
      have hXl : XS.length = L.length + (ws.take k).sum := by rw [← hXS, List.length_append, hblen]
      have hXl1 : XS.length + x ≤ n := by omega
      generalize hsk : (ws.take k).sum = sk at *
      have hsk0 : sk + x ≤ n := by omega
      have HXl := Lib.hid hXl
      have Hsum := Lib.hid hsum
      have HXS := Lib.hid hXS
      clear hsum hsle hblen hXl hXS hsk hx
      go_wp2
      obtain ⟨wo, rfl⟩ : ∃ wo : World, wo = wr := ⟨_, rfl⟩
      go_loopw [1, 13] (fun p j wr => ∃ m : Nat, m ≤ x ∧ j = .int .i64 m ∧ p = .int .i64 ((XS ++ List.replicate m C).length : Int) ∧ wr.ownsRow base 4 1 (.slice (some ⟨g, 0, none⟩) n cap) n (fillB n (XS ++ List.replicate m C)) ∧ w.grownBy wr (some g)) (fun _ j _ => x - (intOf j).toNat)
      case atStart => exact ⟨0, Nat.zero_le _, rfl, by simp, by simpa using hown, hg⟩
      case round =>
        clear hown hg hcell
        obtain ⟨m, hm, rfl, rfl, hown, hg⟩ := hrel
        by_cases hlt2 : m < x
        · have hYl : (XS ++ List.replicate m C).length + (x - m) ≤ n := by simp; omega
          have hYs : Hid (XS ++ List.replicate m C ++ [C] = XS ++ List.replicate (m + 1) C) := Lib.hid (by rw [List.replicate_succ', List.append_assoc])
          generalize hY : XS ++ List.replicate m C = Y at *
          clear hY
          have hc := hown.cellAt Y.length (by omega)
          rw [fillB_get _ _ (by omega)] at hc
          have hf := hown.frozenAt Y.length
          have st := hown.stored Y.length (.bool C)
          rw [fillB_set _ _ _ (by omega), hYs.out] at st
          have hg2 := grown_trans hg st.2
          have hown2 := st.1
          have hYl1 : Hid (Y.length + 1 = (XS ++ List.replicate (m + 1) C).length) := Lib.hid (by rw [← hYs.out]; simp)
          clear st hown hg
          go_wp2
          go_roundw
          case rel => exact ⟨m + 1, by omega, by go_num, by rw [← hYl1.out]; go_num, hown2, hg2⟩
          case measure => simp [intOf]; omega
        · have hmx : m = x := by omega
          have hfin : Hid (XS ++ List.replicate m C = L ++ barsFrom c0 (ws.take (k + 1))) := Lib.hid (by rw [hmx, hbs.out, ← HXS.out, List.append_assoc])
          rw [hfin.out] at hown
          have hnl : ((XS ++ List.replicate m C).length : Int) = ((L ++ barsFrom c0 (ws.take (k + 1))).length : Int) := by rw [hfin.out]
          have Hnl := Lib.hid hnl
          clear hmx hnl
          go_wp2
          go_roundw
          case rel => exact ⟨k + 1, by omega, by go_num, by rw [Hnl.out], by rw [hcs.out], by rw [Hsum.out]; go_num, hown, hg⟩
          case measure => simp [intOf]; omega
    · have hn' : Hid (ws.take k = ws) := Lib.hid (List.take_of_length_le (by omega))
      rw [hn'.out] at hown
      have hsum : Hid ((ws.take k).sum = ws.sum) := Lib.hid (by rw [hn'.out])
      go_wp2
      go_ret
      exact ⟨by rw [hsum.out]; rfl, hown, hg⟩
end Go.Proofs.YtpgddedhhjbgoaaDoor
