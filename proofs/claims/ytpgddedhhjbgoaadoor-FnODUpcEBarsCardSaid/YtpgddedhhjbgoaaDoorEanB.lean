/- Walks: spec.odBars, spec.odDigit. -/
import Derived.Test.YtpgddedhhjbgoaaDoorEanD
import Derived.Test.YtpgddedhhjbgoaaDoorElem
namespace Go.Proofs.YtpgddedhhjbgoaaDoor
open Go.RowKit

theorem barsFrom_take (c : Bool) (ws : List Nat) (k : Nat) (h : k < ws.length) : barsFrom c (ws.take (k + 1)) = barsFrom c (ws.take k) ++ List.replicate (nth ws k) (colour c k) := barsFrom_snoc c ws k h

set_option maxHeartbeats 2000000 in
set_option maxRecDepth 100000 in
theorem odBars_any (base : Nat) (L : List Bool) (ws : List Nat) (s : ByteArray) (hs : bl s = ws.map (fun n => UInt8.ofNat (48 + n))) (hw : ∀ x ∈ ws, x ≤ 9) (hwl : ws.length ≤ 10) (hL : L.length ≤ 10000)
    (v : Value) (c : Bool) (w : World) (hown : w.ownsRow base 4 1 v L.length (L.map .bool)) (hbase : base ≤ w.heap.size) :
    Calls Tryd.prog 17 #[v, .string s, .bool c] w fun e w' => (∃ v', e = .returned v' ∧ w'.ownsRow base 4 1 v' (L ++ barsFrom c ws).length ((L ++ barsFrom c ws).map .bool)) ∧ Below base w w' := by
  obtain ⟨j0, hj, hy0, hy1, hy2⟩ := info_parts info_bool
  have hsz : s.size = ws.length := by rw [← bl_length, hs, List.length_map]
  have HB : Hid (∀ k, k < ws.length → (nthU (bl s) k).toNat = 48 + nth ws k) := Lib.hid (fun k hk => by
    rw [hs, nthU_eq (by rw [List.length_map]; exact hk), List.getElem_map, UInt8.toNat_ofNat', nth_eq hk]
    have := hw _ (List.getElem_mem hk)
    omega)
  have HW := Lib.hid hw
  clear hs hw
  go_enter Tryd.func17, Tryd.ntmps17
  go_wp2
  go_loopw [0, 2, 7, 10, 17] (fun o cc _ i _ wr => ∃ k : Nat, k ≤ ws.length ∧ i = .int .i64 k ∧ cc = .bool (colour c k) ∧ wr.ownsRow base 4 1 o (L ++ barsFrom c (ws.take k)).length ((L ++ barsFrom c (ws.take k)).map .bool) ∧ Below base w wr) (fun _ _ _ i _ _ => ws.length - (intOf i).toNat)
  case atStart => exact ⟨0, Nat.zero_le _, rfl, by simp [colour], by simpa [barsFrom] using hown, Below.refl _ _⟩
  case round =>
    clear hown
    obtain ⟨k, hk, rfl, rfl, hown, hb⟩ := hrel
    by_cases hlt : k < ws.length
    · have hks : k < s.size := by omega
      have hbyte := bl_get s k hks
      have hb48 := HB.out k hlt
      have hx9 := nth_le HW.out k
      have hbs := Lib.hid (barsFrom_take c ws k hlt)
      have hcs := Lib.hid (colour_next c k)
      have hlen : (L ++ barsFrom c (ws.take k)).length ≤ 10000 + 9 * k := by
        rw [List.length_append, barsFrom_length]
        have := sum_le (ws.take k) 9 (fun x hx => HW.out x (List.mem_of_mem_take hx))
        rw [List.length_take] at this
        omega
      generalize nthU (bl s) k = ch at *
      generalize colour c k = C at *
      generalize nth ws k = x at *
      generalize hXS : L ++ barsFrom c (ws.take k) = XS at *
      have HXS := Lib.hid hXS
      clear hXS
      have hltI : (k : Int) < (s.size : Int) := by omega
      go_wp2
      go_loopw [0, 17] (fun o j wr => ∃ m : Nat, m ≤ x ∧ j = .int .u8 m ∧ wr.ownsRow base 4 1 o (XS ++ List.replicate m C).length ((XS ++ List.replicate m C).map .bool) ∧ Below base w wr) (fun _ j _ => x - (intOf j).toNat)
      case atStart => exact ⟨0, Nat.zero_le _, rfl, by simpa using hown, hb⟩
      case round =>
        clear hown hb
        obtain ⟨m, hm, rfl, hown, hb⟩ := hrel
        by_cases hlt2 : m < x
        · have hnx : Hid ((XS ++ List.replicate m C).map Value.bool ++ [.bool C] = (XS ++ List.replicate (m + 1) C).map Value.bool) := Lib.hid (by rw [List.replicate_succ', ← List.append_assoc, List.map_append (l₁ := XS ++ _)]; rfl)
          have hnl : Hid ((XS ++ List.replicate m C).length + 1 = (XS ++ List.replicate (m + 1) C).length) := Lib.hid (by simp; omega)
          have hyl : (XS ++ List.replicate m C).length ≤ 20000 := by simp; omega
          generalize (XS ++ List.replicate m C).map Value.bool = YS at *
          generalize (XS ++ List.replicate m C).length = yl at *
          have hsz2 : base ≤ wr.heap.size := Nat.le_trans hbase hb.size
          go_wp2_with (at_builtin; refine wpList_append_lies _ rfl _ _ 24 rfl base 4 j0 (.bool false) 1 1 Tryd.underlying24 hj hy0 hy1 hy2 rfl (by decide) _ _ _ rfl (hown.alloc _) ⟨wr.heap.size, 0, none⟩ 1 1 [.bool C] rfl rfl (one_new wr _ _) (bools_one [C]) (by decide) (by unfold maxLen; omega) (by omega) (by simp; omega) _ rfl ?_)
          intro g9 cap9 w9 hown9 hgrow hat hlt9
          have hb9 : Below base w w9 := app_below hb hsz2 hown hgrow
          generalize Value.slice (some ⟨g9, 0, none⟩) (yl + 1) cap9 = vv at *
          rw [hnx.out, hnl.out] at hown9
          clear hgrow hat hown hb
          go_wp2
          go_roundw
          case rel => exact ⟨m + 1, by omega, by go_num, hown9, hb9⟩
          case measure => simp [intOf]; omega
        · have hmx : m = x := by omega
          have hfin : Hid (XS ++ List.replicate m C = L ++ barsFrom c (ws.take (k + 1))) := Lib.hid (by rw [hmx, hbs.out, ← HXS.out, List.append_assoc])
          rw [hfin.out] at hown
          clear hmx
          go_wp2
          go_roundw
          case rel => exact ⟨k + 1, by omega, by go_num, by rw [hcs.out], hown, hb⟩
          case measure => simp [intOf]; omega
    · have hkn : Hid (ws.take k = ws) := Lib.hid (List.take_of_length_le (by omega))
      rw [hkn.out] at hown
      go_wp2
      go_ret
      exact ⟨⟨_, rfl, hown⟩, hb⟩

/-- Four bytes of the call's own, just laid. -/
theorem four_new (w : World) (l : List Value) (e : TypeId) : ∀ j u', l[j]? = some u' → (w.alloc (.cells l.toArray e)).cell? ((⟨w.heap.size, 0, none⟩ : Addr).add j) = some u' := lit_new w l e
theorem conv_list {P : Program} (w : World) (l : List UInt8) (src dst e : TypeId) (hs : P.underlying src = some (.slice e)) (he : P.underlying e = some (.int .u8)) (hd : P.underlying dst = some .string) :
    (convert src dst (.slice (some ⟨w.heap.size, 0, none⟩) l.length l.length)).run P (w.alloc (.cells (l.map B8).toArray e)).drew = .ok (.string ⟨l.toArray⟩) (w.alloc (.cells (l.map B8).toArray e)).drew :=
  run_convert_bytes_back (P := P) (w.drew.alloc (.cells (l.map B8).toArray e)) src dst e ⟨w.heap.size, 0, none⟩ l.length l hs he hd (fun j hj => by
    exact lit_new w.drew (l.map B8) e j _ (by simp [hj, B8]))

set_option maxHeartbeats 2000000 in
set_option maxRecDepth 100000 in
theorem odDigit_any (base : Nat) (L : List Bool) (set d : UInt8) (hd : isDig d) (hL : L.length ≤ 10000)
    (v : Value) (w : World) (hown : w.ownsRow base 4 1 v L.length (L.map .bool)) (hbase : base ≤ w.heap.size) :
    Calls Tryd.prog 19 #[v, B8 d, B8 set] w fun e w' => (∃ v', e = .returned v' ∧ w'.ownsRow base 4 1 v' (L ++ dmods set d).length ((L ++ dmods set d).map .bool)) ∧ Below base w w' := by
  obtain ⟨f1, f2, f3⟩ := eanEl_facts hd
  have f9 : ∀ x ∈ eanEl d, x ≤ 9 := fun x hx => by have := f3 x hx; omega
  have hset : set.toNat ≤ 255 := by have := set.toNat_lt; omega
  unfold B8
  by_cases hB : set = 66
  · have HM : Hid (dmods set d = barsFrom false (eanEl d).reverse) := Lib.hid (by rw [dmods, if_pos hB])
    subst hB
    rw [HM.out]
    go_enter Tryd.func19, Tryd.ntmps19
    go_wp2_with fail
    refine (odWidths_any d hd _).mono ?_
    rintro e w1 ⟨⟨r, rfl, hr⟩, hb1⟩
    have hr4 : r.size = 4 := by rw [← bl_length, hr, List.length_map, f1]
    have hown1 := own_below hown hb1
    have g0 := bl_get r 0 (by omega)
    have g1 := bl_get r 1 (by omega)
    have g2 := bl_get r 2 (by omega)
    have g3 := bl_get r 3 (by omega)
    have hrev : (eanEl d).reverse.map (fun n => UInt8.ofNat (48 + n)) = [nthU (bl r) 3, nthU (bl r) 2, nthU (bl r) 1, nthU (bl r) 0] := by
      rw [List.map_reverse, ← hr]
      have h4 : (bl r).length = 4 := by rw [bl_length]; exact hr4
      match bl r, h4 with
      | [a, b, c, e], _ => rfl
    have HREV := Lib.hid hrev
    clear hrev hr
    generalize nthU (bl r) 0 = b0 at *
    generalize nthU (bl r) 1 = b1 at *
    generalize nthU (bl r) 2 = b2 at *
    generalize nthU (bl r) 3 = b3 at *
    have hcv : (convert 44 9 (.slice (some ⟨w1.heap.size, 0, none⟩) 4 4)).run Tryd.prog (w1.alloc (.cells #[.int .u8 (b3.toNat : Int), .int .u8 (b2.toNat : Int), .int .u8 (b1.toNat : Int), .int .u8 (b0.toNat : Int)] 5)).drew = .ok (.string ⟨#[b3, b2, b1, b0]⟩) (w1.alloc (.cells #[.int .u8 (b3.toNat : Int), .int .u8 (b2.toNat : Int), .int .u8 (b1.toNat : Int), .int .u8 (b0.toNat : Int)] 5)).drew :=
      conv_list (P := Tryd.prog) w1 [b3, b2, b1, b0] 44 9 5 Tryd.underlying44 Tryd.underlying5 Tryd.underlying9
    have hbase1 : base ≤ w1.heap.size := Nat.le_trans hbase hb1.size
    have hb2 : Below base w (w1.alloc (.cells #[.int .u8 (b3.toNat : Int), .int .u8 (b2.toNat : Int), .int .u8 (b1.toNat : Int), .int .u8 (b0.toNat : Int)] 5)).drew := ((hb1.mono hbase).alloc hbase1 _).drew
    have hown2 := own_below hown1 ((below_alloc w1 (.cells #[.int .u8 (b3.toNat : Int), .int .u8 (b2.toNat : Int), .int .u8 (b1.toNat : Int), .int .u8 (b0.toNat : Int)] 5)).drew)
    go_wp2_with fail
    go_region_with (go_at_call 17; refine (odBars_any base L (eanEl d).reverse ⟨#[b3, b2, b1, b0]⟩ HREV.out.symm (fun x hx => f9 x (List.mem_reverse.1 hx)) (by rw [List.length_reverse]; omega) hL v false _ hown2 (Nat.le_trans hbase (Nat.le_trans hb1.size (by simp))  )).mono ?_; rintro e w3 ⟨⟨v3, rfl, hown3⟩, hb3⟩)
    all_goals
      go_wp2
      go_ret
      exact ⟨⟨_, rfl, hown3⟩, hb2.trans hb3⟩
  · have hneB : ((set.toNat : Int) == 66) = false := by
      rw [beq_eq_false_iff_ne]; intro e; exact hB (UInt8.toNat.inj (show set.toNat = 66 by omega))
    by_cases hC : set = 67
    · have HM : Hid (dmods set d = barsFrom true (eanEl d)) := Lib.hid (by rw [dmods, if_neg hB, if_pos hC])
      rw [HM.out]
      subst hC
      clear hneB
      go_enter Tryd.func19, Tryd.ntmps19
      go_wp2_with fail
      refine (odWidths_any d hd _).mono ?_
      rintro e w1 ⟨⟨r, rfl, hr⟩, hb1⟩
      have hown1 := own_below hown hb1
      have HR := Lib.hid hr
      clear hr
      go_wp2_with fail
      refine (odBars_any base L (eanEl d) r HR.out f9 (by omega) hL v true _ hown1 (Nat.le_trans hbase hb1.size)).mono ?_
      rintro e w3 ⟨⟨v3, rfl, hown3⟩, hb3⟩
      go_wp2
      go_ret
      exact ⟨⟨_, rfl, hown3⟩, (hb1.mono hbase).trans hb3⟩
    · have hneC : ((set.toNat : Int) == 67) = false := by
        rw [beq_eq_false_iff_ne]; intro e; exact hC (UInt8.toNat.inj (show set.toNat = 67 by omega))
      have HM : Hid (dmods set d = barsFrom false (eanEl d)) := Lib.hid (by rw [dmods, if_neg hB, if_neg hC])
      rw [HM.out]
      clear hB hC
      go_enter Tryd.func19, Tryd.ntmps19
      go_wp2_with fail
      refine (odWidths_any d hd _).mono ?_
      rintro e w1 ⟨⟨r, rfl, hr⟩, hb1⟩
      have hown1 := own_below hown hb1
      have HR := Lib.hid hr
      clear hr
      go_wp2_with fail
      refine (odBars_any base L (eanEl d) r HR.out f9 (by omega) hL v false _ hown1 (Nat.le_trans hbase hb1.size)).mono ?_
      rintro e w3 ⟨⟨v3, rfl, hown3⟩, hb3⟩
      go_wp2
      go_ret
      exact ⟨⟨_, rfl, hown3⟩, (hb1.mono hbase).trans hb3⟩
end Go.Proofs.YtpgddedhhjbgoaaDoor
