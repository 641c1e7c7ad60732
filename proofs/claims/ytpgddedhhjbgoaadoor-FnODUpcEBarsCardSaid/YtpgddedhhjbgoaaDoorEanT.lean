/- Walks: the tables of the writers of EAN, the check of a text's last digit. -/
import Derived.Test.YtpgddedhhjbgoaaDoorEanK
namespace Go.Proofs.YtpgddedhhjbgoaaDoor
open Go.RowKit

/-- A table whose rows lie in blocks from H on. -/
def TblN (H : Nat) (w : World) (v : Value) (tbl : List (List Nat)) : Prop :=
  ∃ vs, SlAt w v vs ∧ vs.length = tbl.length ∧ ∀ i, i < tbl.length → SlAt w (vs.getD i undef) ((nthL tbl i).map I64) ∧ ∀ b, (vs.getD i undef).ownBlock = some b → H ≤ b
theorem TblN.get {H : Nat} {w : World} {a : Option Addr} {n c : Nat} {t : List (List Nat)} (h : TblN H w (.slice a n c) t) (i : Nat) (hi : i < t.length) :
    ∃ b o a' c', a = some ⟨b, o, none⟩ ∧ w.cell? ⟨b, o + i, none⟩ = some (.slice a' (nthL t i).length c') ∧ SlAt w (.slice a' (nthL t i).length c') ((nthL t i).map I64) ∧ ∀ b, (Value.slice a' (nthL t i).length c').ownBlock = some b → H ≤ b := by
  obtain ⟨vs, h1, h2, h3⟩ := h
  obtain ⟨b, o, ha, hc⟩ := h1.get i (by omega)
  obtain ⟨h4, h5⟩ := h3 i hi
  obtain ⟨a', c', hv, _⟩ := h4.form
  rw [List.length_map] at hv
  exact ⟨b, o, a', c', ha, by rw [hc, hv], by rw [← hv]; exact h4, by rw [← hv]; exact h5⟩
theorem tbl_litN (w : World) (e e2 : TypeId) (t : List (List Nat)) (hm : t.length ≤ 1000) (hr : ∀ r ∈ t, r.length ≤ 1000) :
    TblN w.heap.size ((pushRows w e t).alloc (.cells (rowVals w.heap.size t).toArray e2)) (.slice (some ⟨w.heap.size + t.length, 0, none⟩) t.length t.length) t ∧
      Below w.heap.size w ((pushRows w e t).alloc (.cells (rowVals w.heap.size t).toArray e2)) := by
  have hb := pushRows_below w e t
  have hsz := pushRows_size w e t
  refine ⟨⟨rowVals w.heap.size t, ⟨by rw [rowVals_length]; unfold maxLen; omega, _, _, by rw [rowVals_length], by rw [rowVals_length]; exact Nat.le_refl _, fun i hi => ⟨w.heap.size + t.length, 0, rfl, ?_⟩⟩, rowVals_length _ _, fun i hi => ⟨?_, ?_⟩⟩, hb.alloc hb.size _⟩
  · rw [← hsz, cell_of_row _ (pushRows w e t).heap.size _ _ e2 (0, 0) (heap_alloc_new _ _), Nat.zero_add]
    simp [List.getD, hi]
  · rw [rowVals_get _ _ _ hi]
    have hl : (nthL t i).length ≤ 1000 := by rw [nthL_eq hi]; exact hr _ (List.getElem_mem hi)
    refine ⟨by rw [List.length_map]; unfold maxLen; omega, _, _, by rw [List.length_map], by rw [List.length_map]; exact Nat.le_refl _, fun j hj => ⟨_, _, rfl, ?_⟩⟩
    have hg := pushRows_get w e t i hi
    rw [← heap_alloc_old (pushRows w e t) (.cells (rowVals w.heap.size t).toArray e2) (by omega)] at hg
    rw [cell_of_row _ _ _ _ e (0, 0) hg, Nat.zero_add]
    have hj' : j < (nthL t i).length := by simpa using hj
    simp [List.getD, hj']
  · rw [rowVals_get _ _ _ hi]
    intro b hb'
    have : w.heap.size + i = b := by injection hb'
    omega

set_option maxHeartbeats 1000000 in
set_option maxRecDepth 100000 in
theorem lPatterns_any (w : World) :
    Calls Tryd.prog 37 #[] w fun e w' => (∃ a c, e = .returned (.slice a 10 c) ∧ TblN w.heap.size w' (.slice a 10 c) eanW) ∧ Below w.heap.size w w' := by
  go_enter Tryd.func37, Tryd.ntmps37
  go_wp2
  go_ret
  have h := tbl_litN w 3 60 eanW (by decide) (by decide)
  exact ⟨⟨_, _, rfl, h.1⟩, h.2⟩

theorem startEnd_any (w : World) :
    Calls Tryd.prog 36 #[] w fun e w' => (∃ v, e = .returned v ∧ SlAt w' v ([1, 1, 1].map I64) ∧ v.ownBlock = some w.heap.size) ∧ Below w.heap.size w w' := by
  go_enter Tryd.func36, Tryd.ntmps36
  go_wp2
  go_ret
  exact ⟨⟨_, rfl, SlAt.of_own (own_lit w 3 ([1, 1, 1].map I64) (by decide)), rfl⟩, below_alloc _ _⟩

theorem middle_any (w : World) :
    Calls Tryd.prog 38 #[] w fun e w' => (∃ v, e = .returned v ∧ SlAt w' v ([1, 1, 1, 1, 1].map I64) ∧ v.ownBlock = some w.heap.size) ∧ Below w.heap.size w w' := by
  go_enter Tryd.func38, Tryd.ntmps38
  go_wp2
  go_ret
  exact ⟨⟨_, rfl, SlAt.of_own (own_lit w 3 ([1, 1, 1, 1, 1].map I64) (by decide)), rfl⟩, below_alloc _ _⟩

set_option maxHeartbeats 1000000 in
set_option maxRecDepth 100000 in
theorem checkChk_any (s : ByteArray) (n : Nat) (hn : s.size = n + 1) (hs : n ≤ 19) (w : World) :
    Calls Tryd.prog 33 #[.string s] w fun e w' =>
      ((allDig (s.extract 0 n) ∧ e = .returned (.tuple #[.bool (decide (nthU (bl s) n = chkB (bl (s.extract 0 n)))), .nilIface])) ∨
        (¬ allDig (s.extract 0 n) ∧ e = .returned (.tuple #[.bool false, .iface 74 (.agg #[.string ⟨#[70, 111, 114, 109, 97, 116, 69, 120, 99, 101, 112, 116, 105, 111, 110]⟩, .nilIface])]))) ∧ Below w.heap.size w w' := by
  have hbyte := bl_get s n (by omega)
  have htn : ((s.size : Int) - 1).toNat = n := by omega
  have hsz1 : (s.size : Int) - 1 = (n : Int) := by omega
  have hne0 : ((s.size : Int) == 0) = false := by rw [beq_eq_false_iff_ne]; omega
  have hxl : (s.extract 0 n).size = n := by rw [ByteArray.size_extract]; omega
  have hck := eanChk_lt (bl (s.extract 0 n))
  have hcb := chkB_toNat (bl (s.extract 0 n))
  have hdec : Hid (decide (nthU (bl s) n = chkB (bl (s.extract 0 n))) = decide ((nthU (bl s) n).toNat = 48 + eanChk (bl (s.extract 0 n)))) := Lib.hid (by
    rw [decide_eq_decide, ← hcb]
    exact ⟨fun h => by rw [h], fun h => UInt8.toNat.inj h⟩)
  rw [hdec.out]
  clear hcb hdec
  generalize nthU (bl s) n = c at *
  have hc255 : c.toNat ≤ 255 := by have := c.toNat_lt; omega
  obtain ⟨B, hB⟩ : ∃ B, decide (c.toNat = 48 + eanChk (bl (s.extract 0 n))) = B := ⟨_, rfl⟩
  have HB := Lib.hid hB
  have hE1 : c.toNat < 48 → ((eanChk (bl (s.extract 0 n)) : Int) == ((c.toNat : Int) - 48) % 256) = B := fun h => by
    rw [← hB, decide_eq_false (by omega), beq_eq_false_iff_ne]; omega
  have hE2 : ¬ c.toNat < 48 → ((eanChk (bl (s.extract 0 n)) : Int) == (c.toNat : Int) - 48) = B := fun h => by
    rw [← hB, Bool.eq_iff_iff, beq_iff_eq, decide_eq_true_iff]; omega
  clear hB
  by_cases hc : c.toNat < 48
  · have hE := hE1 hc
    clear hE1 hE2
    go_enter Tryd.func33, Tryd.ntmps33
    go_wp2_with fail
    refine (getChk_any _ (by omega) _).mono ?_
    rintro e w1 ⟨hcase, hb1⟩
    rcases hcase with ⟨hd, rfl⟩ | ⟨hd, rfl⟩
    · have HD := Lib.hid hd
      clear hd
      go_wp2
      go_ret2
      exact ⟨.inl ⟨HD.out, by rw [HB.out]; rfl⟩, hb1⟩
    · have HD := Lib.hid hd
      clear hd
      go_wp2
      go_ret2
      exact ⟨.inr ⟨HD.out, rfl⟩, hb1⟩
  · have hE := hE2 hc
    clear hE1 hE2
    go_enter Tryd.func33, Tryd.ntmps33
    go_wp2_with fail
    refine (getChk_any _ (by omega) _).mono ?_
    rintro e w1 ⟨hcase, hb1⟩
    rcases hcase with ⟨hd, rfl⟩ | ⟨hd, rfl⟩
    · have HD := Lib.hid hd
      clear hd
      go_wp2
      go_ret2
      exact ⟨.inl ⟨HD.out, by rw [HB.out]; rfl⟩, hb1⟩
    · have HD := Lib.hid hd
      clear hd
      go_wp2
      go_ret2
      exact ⟨.inr ⟨HD.out, rfl⟩, hb1⟩
end Go.Proofs.YtpgddedhhjbgoaaDoor
