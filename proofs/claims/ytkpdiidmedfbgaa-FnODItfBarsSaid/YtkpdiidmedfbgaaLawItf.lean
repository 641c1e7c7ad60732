/- Walks: laws.FnODItfBars. -/
import Derived.Test.YtkpdiidmedfbgaaItf
import Derived.Test.YtkpdiidmedfbgaaItfB
import Derived.Test.YtkpdiidmedfbgaaDig
namespace Go.Proofs.Ytkpdiidmedfbgaa
open Go.RowKit

theorem nthU_mem {l : List UInt8} {i : Nat} (h : i < l.length) : nthU l i ∈ l := by rw [nthU_eq h]; exact List.getElem_mem h
/-- A digit's place taken by another sign. -/
theorem sign_facts (r : ByteArray) (c : UInt8) (k : Nat) (hk : k < r.size) (hd : allDig r) (h1 : 58 ≤ c.toNat) (h2 : c.toNat ≤ 117) :
    (r.extract 0 k ++ ⟨#[c]⟩ ++ r.extract (k + 1) r.size).size = r.size ∧
    (∀ i, i < (r.extract 0 k ++ ⟨#[c]⟩ ++ r.extract (k + 1) r.size).size → (nthU (bl (r.extract 0 k ++ ⟨#[c]⟩ ++ r.extract (k + 1) r.size)) i).toNat < 128) ∧
    ¬ allDig (r.extract 0 k ++ ⟨#[c]⟩ ++ r.extract (k + 1) r.size) := by
  have hbl : bl (r.extract 0 k ++ ⟨#[c]⟩ ++ r.extract (k + 1) r.size) = (bl r).take k ++ [c] ++ (bl r).drop (k + 1) := by
    rw [bl_append, bl_append, bl_extract, bl_extract, List.drop_zero, ← bl_length, List.take_length]; rfl
  have hkl : k < (bl r).length := by rw [bl_length]; exact hk
  have hs : (r.extract 0 k ++ ⟨#[c]⟩ ++ r.extract (k + 1) r.size).size = r.size := by
    rw [← bl_length, hbl, ← bl_length r, List.length_append, List.length_append, List.length_take, List.length_drop, List.length_singleton]; omega
  have hall : ∀ x ∈ bl r, isDig x := by
    intro x hx
    obtain ⟨i, hi, rfl⟩ := List.getElem_of_mem hx
    have := hd i (by rw [← bl_length]; exact hi)
    rwa [nthU_eq hi] at this
  refine ⟨hs, fun i hi => ?_, fun h => ?_⟩
  · rw [← bl_length] at hi
    have hm := nthU_mem hi
    generalize nthU _ i = y at *
    rw [hbl, List.mem_append, List.mem_append, List.mem_singleton] at hm
    rcases hm with (hm | hm) | hm
    · have := (hall _ (List.mem_of_mem_take hm)).2; omega
    · rw [hm]; omega
    · have := (hall _ (List.mem_of_mem_drop hm)).2; omega
  · have := h k (by rw [hs]; exact hk)
    rw [hbl] at this
    have e : nthU ((bl r).take k ++ [c] ++ (bl r).drop (k + 1)) k = c := by
      have hl : ((bl r).take k).length = k := by rw [List.length_take]; omega
      simp [nthU, List.getD, List.getElem?_append_right, hl]
    rw [e] at this
    have := this.2; omega

set_option maxHeartbeats 4000000 in
set_option maxRecDepth 100000 in
theorem lawItfBars (cs : List UInt8) (v : Value) (w : World) (o at' : UInt8) (h1 : SlAt w v (cs.map B8)) :
    Calls Try.prog 3 #[v, B8 o, B8 at'] w fun e w' => e = .returned (.bool true) ∧ Below w.heap.size w w' := by
  obtain ⟨a1, c1, rfl, hm1⟩ := h1.form
  simp only [List.length_map] at hm1 ⊢
  have ho : o.toNat ≤ 255 := by have := o.toNat_lt; omega
  have ha : at'.toNat ≤ 255 := by have := at'.toNat_lt; omega
  unfold B8
  by_cases hbig : cs.length > 2147483647
  · go_enter Try.func3, Try.ntmps3
    go_wp2
    go_ret
    exact ⟨rfl, Below.refl _ _⟩
  · go_enter Try.func3, Try.ntmps3
    go_wp2_with fail
    refine (odDigits_any cs _ _ 2 (by omega) (by simpa using h1)).mono ?_
    rintro e w1 ⟨⟨r, rfl, hd, hev, hle, hz⟩, rfl⟩
    have HD := Lib.hid hd
    have HEV := Lib.hid hev
    clear hd hev h1
    by_cases h0 : r.size = 0
    · have hemp : r.toList = [] := by rw [ByteArray.toList_eq]; exact List.eq_nil_of_length_eq_zero (by simpa using h0)
      go_wp2
      go_ret
      exact ⟨rfl, Below.refl _ _⟩
    · have h2 : 2 ≤ r.size := by omega
      have hemp : r.toList.isEmpty = false := by
        rw [ByteArray.toList_eq, List.isEmpty_eq_false_iff]; intro e; exact h0 (by have := congrArg List.length e; simpa using this)
      clear hz h0
      go_wp2_with fail
      refine (ODItfBars_ok r _ hle HEV.out HD.out).mono ?_
      rintro e w2 ⟨⟨v2, rfl, hown2⟩, hb2⟩
      obtain ⟨k, hk, hklt⟩ : ∃ k : Nat, ((at'.toNat : Int) % (r.size : Int)) = (k : Int) ∧ k < r.size := ⟨at'.toNat % r.size, by simp, Nat.mod_lt _ (by omega)⟩
      obtain ⟨c, hc, hc1, hc2⟩ : ∃ c : UInt8, (58 : Int) + (o.toNat : Int) % 60 = (c.toNat : Int) ∧ 58 ≤ c.toNat ∧ c.toNat ≤ 117 := ⟨UInt8.ofNat (58 + o.toNat % 60), by
        rw [UInt8.toNat_ofNat']; omega, by rw [UInt8.toNat_ofNat']; omega, by rw [UInt8.toNat_ofNat']; omega⟩
      have hk0 : (0 : Int) ≤ k := by omega
      have hklt' : (k : Int) < r.size := by omega
      have hcv := conv_one (P := Try.prog) w2 c 22 9 5 Try.underlying22 Try.underlying5 Try.underlying9
      go_wp2_with fail
      go_region
      obtain ⟨sz, sa, sn⟩ := sign_facts r c k hklt HD.out hc1 hc2
      generalize r.extract 0 k ++ ⟨#[c]⟩ ++ r.extract (k + 1) r.size = sg at *
      have SA := Lib.hid sa
      have SN := Lib.hid sn
      have SZ := Lib.hid sz
      have hb3 : Below w1.heap.size w1 ((w2.alloc (.cells #[.int .u8 (c.toNat : Int)] 5)).drew) := (hb2.alloc hb2.size _).drew
      have hown3 : ((w2.alloc (.cells #[.int .u8 (c.toNat : Int)] 5)).drew).ownsRow w1.heap.size 4 1 v2 (bars (itfWidths (bl r))).length ((bars (itfWidths (bl r))).map .bool) := own_below hown2 ((below_alloc _ _).drew)
      generalize (w2.alloc (.cells #[.int .u8 (c.toNat : Int)] 5)).drew = w3 at *
      clear sa sn sz hcv hown2 hb2 hk hc hc1 hc2 hk0 hklt' hklt
      go_wp2
      go_loop [12] (fun l => ∃ L : ByteArray, l = .string L ∧ L.size ≤ 200 ∧ 2 ≤ L.size) (fun l => match l with | .string L => 82 - L.size | _ => 0)
      case atStart => exact ⟨r, rfl, by omega, h2⟩
      case round =>
        obtain ⟨L, rfl, hL1, hL2⟩ := hrel
        by_cases hL : L.size < 82
        · go_wp2
          go_round
          case rel => exact ⟨_, rfl, by rw [ByteArray.size_append']; omega, by rw [ByteArray.size_append']; omega⟩
          case measure => simp; omega
        · have hodd : (r.extract 1 r.size).size % 2 = 1 := by rw [ByteArray.size_extract]; have := HEV.out; omega
          have hsz1 : (r.extract 1 r.size).size ≤ 80 := by rw [ByteArray.size_extract]; omega
          go_wp2_with fail
          refine (ODItfBars_bad _ _ (by omega) (.inl hodd)).mono ?_
          rintro e w4 ⟨rfl, hb4⟩
          clear hodd hsz1
          go_wp2_with fail
          refine (ODItfBars_bad sg _ (by rw [SZ.out]; omega) (.inr (.inr ⟨SA.out, SN.out⟩))).mono ?_
          rintro e w5 ⟨rfl, hb5⟩
          go_wp2_with fail
          refine (ODItfBars_bad L _ (by omega) (.inr (.inl (by omega)))).mono ?_
          rintro e w6 ⟨rfl, hb6⟩
          have hb6' : Below w3.heap.size w3 w6 := Below.two (Below.two hb4 hb5 hb4.size) hb6 (by have := hb4.size; have := hb5.size; omega)
          have hs6 := (SlAt.of_own hown3).below' hb6'
          have hb6w : Below w1.heap.size w1 w6 := Below.two hb3 hb6' hb3.size
          clear hb4 hb5 hb6 hb6' hb3 hown3
          go_wp2_with fail
          refine (ODItf_any r _ HD.out HEV.out (by omega)).mono ?_
          rintro e w7 ⟨v7, rfl, hown7, hb7⟩
          have hs7 := SlAt.of_own hown7
          have hs67 := hs6.below' hb7
          have hb7w := Below.two hb6w hb7 hb6w.size
          clear hb7 hs6 hb6w hown7
          go_wp2_with fail
          refine (ODSame_any _ _ _ _ _ hs67 hs7).mono ?_
          rintro e w8 ⟨rfl, n, rfl⟩
          have hb8 := below_drewN' hb7w n
          simp only [decide_true]
          clear hs67 hs7 hb7w
          go_wp2
          go_ret
          exact ⟨rfl, hb8⟩
end Go.Proofs.Ytkpdiidmedfbgaa
