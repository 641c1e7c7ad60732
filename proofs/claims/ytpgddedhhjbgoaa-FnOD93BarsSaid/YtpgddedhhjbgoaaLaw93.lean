/- Walks: impl.OD93Bars, laws.FnOD93Bars. -/
import Derived.Test.Ytpgddedhhjbgoaa93E
import Derived.Test.Ytpgddedhhjbgoaa93S
import Derived.Test.Ytpgddedhhjbgoaa93H
import Derived.Test.YtpgddedhhjbgoaaDrawn
import Derived.Test.YtpgddedhhjbgoaaSame
namespace Go.Proofs.Ytpgddedhhjbgoaa
open Go.RowKit

set_option maxHeartbeats 1000000 in
set_option maxRecDepth 100000 in
theorem enc93_long (s : ByteArray) (w : World) (hs : s.size ≤ 1000) (h : 80 < s.size) (ha : ∀ i, i < s.size → (nthU (bl s) i).toNat < 128) (x : Value) :
    Calls Try.prog 38 #[.agg #[], .string s, x] w fun e w' => (∃ u y, e = .returned (.tuple #[.slice none 0 0, .iface u y])) ∧ Below w.heap.size w w' := by
  have HA := Lib.hid ha
  clear ha
  have hb0 : Below w.heap.size w (w.alloc (.cells #[] 53)) := below_alloc _ _
  go_enter Try.func38, Try.ntmps38
  go_wp2_with fail
  refine (ext93_any s _ (by omega) HA.out).mono ?_
  rintro e w1 ⟨⟨r, rfl, hr⟩, hb1⟩
  have hb1' := Below.two hb0 hb1 hb0.size
  have hpl := pairs93_length (bl s) s.size HA.out
  rw [← hr, bl_length] at hpl
  obtain ⟨hpl1, hpl2⟩ := hpl
  have hr80 : 80 < r.size := by omega
  have hr2000 : r.size ≤ 2000 := by omega
  clear hr hb0 hb1 HA hpl1 hpl2
  go_wp2_with (go_at_call 40; refine (NewWriterException_any _ _).mono ?_; rintro e w2 ⟨⟨u, x, rfl⟩, hb2⟩)
  go_ret2
  exact ⟨⟨_, _, rfl⟩, Below.two (by first | exact hb1' | exact hb1'.alloc hb1'.size _ | exact (hb1'.alloc hb1'.size _).alloc (hb1'.alloc hb1'.size _).size _ | go_grown) hb2 (by have := hb1'.size; simp <;> omega)⟩

set_option maxHeartbeats 1000000 in
set_option maxRecDepth 100000 in
theorem OD93Bars_long (s : ByteArray) (w : World) (hs : s.size ≤ 1000) (h : 80 < s.size) (ha : ∀ i, i < s.size → (nthU (bl s) i).toNat < 128) :
    Calls Try.prog 12 #[.string s] w fun e w' => e = .returned (.tuple #[.slice none 0 0, .bool false]) ∧ Below w.heap.size w w' := by
  have HA := Lib.hid ha
  clear ha
  go_enter Try.func12, Try.ntmps12
  go_wp2_with (first | (go_at_call 38; refine (enc93_long s _ hs h HA.out _).mono ?_; rintro e w1 ⟨⟨u, y, rfl⟩, hb1⟩) | (go_at_call 20; refine (drawn_bad _ _ _ _).mono ?_; rintro e w2 ⟨rfl, rfl⟩) | go_in)
  go_ret2
  exact ⟨rfl, Below.two (by go_grown) hb1 (by simp <;> omega)⟩
set_option maxHeartbeats 1000000 in
set_option maxRecDepth 100000 in
theorem OD93Bars_ok (s : ByteArray) (w : World) (h0 : 0 < s.size) (hs : s.size ≤ 40) (ha : ∀ i, i < s.size → (nthU (bl s) i).toNat < 128) :
    Calls Try.prog 12 #[.string s] w fun e w' => (∃ v, e = .returned (.tuple #[v, .bool true]) ∧ w'.ownsRow w.heap.size 4 1 v (row93 (pairs93 (bl s) s.size)).length ((row93 (pairs93 (bl s) s.size)).map .bool)) ∧ Below w.heap.size w w' := by
  have HA := Lib.hid ha
  have hl := (pairs93_length (bl s) s.size ha).1
  clear ha
  have hl2 := row93_length (pairs93 (bl s) s.size)
  generalize hP : pairs93 (bl s) s.size = P at *
  have HP := Lib.hid hP
  have hl3 : (row93 P).length ≤ 2000 := by omega
  have hp : 0 < (row93 P).length := by omega
  clear hP hl hl2
  go_enter Try.func12, Try.ntmps12
  go_wp2_with (first | (go_at_call 38; refine (enc93_ok s _ h0 hs HA.out _).mono ?_; rw [HP.out]; rintro e w1 ⟨⟨v, rfl, hown⟩, hb1⟩) | (go_at_call 20; refine (drawn_ok _ _ _ _ hown (by omega) hp).mono ?_; rintro e w2 ⟨⟨v2, rfl, hown2⟩, hb2⟩) | go_in)
  go_ret2
  have hb3 : Below w.heap.size w w1 := Below.two (by go_grown) hb1 (by simp <;> omega)
  exact ⟨⟨_, rfl, own_mono hown2 hb3.size⟩, Below.two hb3 hb2 hb3.size⟩

set_option maxHeartbeats 4000000 in
set_option maxRecDepth 100000 in
theorem law93Bars (cs : List UInt8) (v : Value) (w : World) (o : UInt8) (h1 : SlAt w v (cs.map B8)) :
    Calls Try.prog 4 #[v, B8 o] w fun e w' => e = .returned (.bool true) ∧ Below w.heap.size w w' := by
  obtain ⟨a1, c1, rfl, hm1⟩ := h1.form
  simp only [List.length_map] at hm1 ⊢
  have ho : o.toNat ≤ 255 := by have := o.toNat_lt; omega
  unfold B8
  by_cases hbig : cs.length > 2147483647
  · clear h1
    go_enter Try.func4, Try.ntmps4
    go_wp2
    go_ret
    exact ⟨rfl, Below.refl _ _⟩
  · go_enter Try.func4, Try.ntmps4
    go_wp2_with fail
    refine (ODAscii_any cs _ _ 40 (by omega) (by simpa using h1)).mono ?_
    rintro e w1 ⟨⟨r, rfl, hr⟩, hb1⟩
    have hle : r.size ≤ 40 := by have h9 := ascii_length cs 40; rw [← hr, bl_length] at h9; omega
    have hlow : ∀ c ∈ bl r, c.toNat < 128 := by rw [hr]; exact ascii_low _ _
    have HLOW := Lib.hid (all_memU hlow)
    clear hlow hr h1
    by_cases h0 : r.size = 0
    · have hemp : r.toList = [] := by rw [ByteArray.toList_eq]; exact List.eq_nil_of_length_eq_zero (by simpa using h0)
      go_wp2
      go_ret
      exact ⟨rfl, hb1⟩
    · have hpos : 0 < r.size := by omega
      have hemp : r.toList.isEmpty = false := by
        rw [ByteArray.toList_eq, List.isEmpty_eq_false_iff, ← List.length_pos_iff]; show 0 < (bl r).length; rw [bl_length]; omega
      clear h0
      go_wp2_with fail
      refine (OD93Bars_ok r _ hpos hle HLOW.out).mono ?_
      rintro e w2 ⟨⟨v2, rfl, hown2⟩, hb2⟩
      have hb2w := Below.two hb1 hb2 hb1.size
      have hs2 := SlAt.of_own hown2
      clear hb1 hb2 hown2
      obtain ⟨mo, hmo, hmo2⟩ : ∃ mo : Nat, (o.toNat : Int) % 40 = (mo : Int) ∧ mo < 40 := ⟨o.toNat % 40, by simp, Nat.mod_lt _ (by omega)⟩
      go_wp2
      go_loop [8] (fun l => ∃ L : ByteArray, l = .string L ∧ L.size ≤ 81 + mo ∧ Hid (∀ i, i < L.size → (nthU (bl L) i).toNat < 128)) (fun l => match l with | .string L => 81 + mo - L.size | _ => 0)
      case atStart => exact ⟨⟨#[]⟩, rfl, by show 0 ≤ _; omega, Lib.hid (fun i hi => absurd hi (Nat.not_lt_zero _))⟩
      case round =>
        obtain ⟨L, rfl, hL1, HL⟩ := hrel
        by_cases hL : L.size < 81 + mo
        · have HL2 : Hid (∀ i, i < (L ++ ⟨#[81]⟩ : ByteArray).size → (nthU (bl (L ++ ⟨#[81]⟩)) i).toNat < 128) := Lib.hid (all_memU (s := L ++ ⟨#[81]⟩) (P := fun c => c.toNat < 128) (by
            intro c hc
            rw [bl_append] at hc
            rcases List.mem_append.1 hc with hc | hc
            · obtain ⟨i, hi, rfl⟩ := List.mem_iff_getElem.1 hc
              rw [← nthU_eq hi]; exact HL.out i (by rw [← bl_length]; exact hi)
            · have hc' : c ∈ [(81 : UInt8)] := hc
              rw [List.mem_singleton.1 hc']; decide))
          go_wp2
          go_round
          case rel => exact ⟨_, rfl, by rw [ByteArray.size_append']; show _ + 1 ≤ _; omega, HL2⟩
          case measure => show 81 + mo - (L ++ ⟨#[81]⟩ : ByteArray).size < 81 + mo - L.size; rw [ByteArray.size_append']; show 81 + mo - (L.size + 1) < _; omega
        · have hLs : L.size = 81 + mo := by omega
          go_wp2_with fail
          refine (OD93Bars_long L _ (by omega) (by omega) HL.out).mono ?_
          rintro e w3 ⟨rfl, hb3⟩
          have hb3' := Below.two hb2w hb3 hb2w.size
          have hs3 := hs2.below' hb3
          clear hb2w hb3 hs2
          go_wp2_with fail
          refine (OD93Shifted_any r _ (by omega) HLOW.out).mono ?_
          rintro e w4 ⟨⟨q, rfl, hq⟩, hb4⟩
          have hpl := pairs93_length (bl r) r.size HLOW.out
          have hqs : ∀ c ∈ bl q, c ∈ signs93 := by rw [hq]; exact pairs93_signs _ _ HLOW.out
          rw [← hq] at hpl hs3
          rw [bl_length] at hpl
          have hb4w := Below.two hb3' hb4 hb3'.size
          have hs4 := hs3.below' hb4
          have HQS := Lib.hid hqs
          obtain ⟨hpl1, hpl2⟩ := hpl
          clear hq hqs hb4 hb3' hs3
          go_wp2_with fail
          refine (OD93_any q _ (by omega) (by omega) HQS.out).mono ?_
          rintro e w7 ⟨v7, rfl, hown7, hb7⟩
          have hs7 := SlAt.of_own hown7
          have hs67 := hs4.below' hb7
          have hb7w := Below.two hb4w hb7 hb4w.size
          clear hb7 hs4 hown7 hb4w
          go_wp2_with fail
          refine (ODSame_any _ _ _ _ _ hs67 hs7).mono ?_
          rintro e w8 ⟨rfl, n, rfl⟩
          have hb8 := below_drewN' hb7w n
          simp only [decide_true]
          clear hs67 hs7 hb7w
          go_wp2
          go_ret
          exact ⟨rfl, hb8⟩
end Go.Proofs.Ytpgddedhhjbgoaa
