/- Walks: UPCEANReader_L_AND_G_PATTERNS. -/
import Derived.Test.YtpgddedhhjbgoaaDoorEanT
import Derived.Test.YtpgddedhhjbgoaaDoorElem
import Derived.Deep.OwnRows
namespace Go.Proofs.YtpgddedhhjbgoaaDoor
open Go.RowKit

/-- The widths of the digits, and the same backwards. -/
def lgW : List (List Nat) := eanW ++ eanW.map List.reverse
theorem lgW_low : ∀ i, i < 10 → nthL lgW i = nthL eanW i := by decide
theorem lgW_high : ∀ i, i < 10 → nthL lgW (10 + i) = (nthL eanW i).reverse := by decide
theorem info_ints : (Tryd.prog.info? 60).map (fun i => (i.zero, i.size, i.bytes)) = some (some (.slice none 0 0), 1, 24) := by kernel_rfl
theorem SlAt.addr' {w : World} {a : Option Addr} {n c : Nat} {vs : List Value} (h : SlAt w (.slice a n c) vs) (h0 : 0 < vs.length) : ∃ b o, a = some ⟨b, o, none⟩ := by
  obtain ⟨b, o, e, _⟩ := h.get 0 h0
  exact ⟨b, o, e⟩
theorem SlAt.reads' {w : World} {b o n c : Nat} {vs : List Value} (h : SlAt w (.slice (some ⟨b, o, none⟩) n c) vs) : ∀ j u, vs[j]? = some u → w.cell? ((⟨b, o, none⟩ : Addr).add j) = some u := by
  intro j u hj
  have hlt : j < vs.length := (List.getElem?_eq_some_iff.1 hj).1
  obtain ⟨b', o', e, hc⟩ := h.get j hlt
  injection e with e; injection e with e e'
  subst e; subst e'
  rw [Addr.add_lit, hc]
  simp [List.getD, hj]
/-- A row of a table, apart from the blocks up to g. -/
def RowOK (g : Nat) (w : World) (v : Value) (ws : List Nat) : Prop := SlAt w v (ws.map I64) ∧ ∀ b, v.ownBlock = some b → g < b
theorem RowOK.below {g : Nat} {w w' : World} {v : Value} {ws : List Nat} (h : RowOK g w v ws) (hb : Below w.heap.size w w') : RowOK g w' v ws := ⟨h.1.below' hb, h.2⟩
theorem RowOK.grown {g : Nat} {w w' : World} {v : Value} {ws : List Nat} (h : RowOK g w v ws) (hb : w.grownBy w' (some g)) : RowOK g w' v ws :=
  ⟨h.1.grown hb (fun k hk e => by have := h.2 k hk; have h2 : k = g := (by injection e); omega), h.2⟩

theorem RowOK.grownNe {g row : Nat} {w w' : World} {v : Value} {ws : List Nat} (h : RowOK g w v ws) (hb : w.grownBy w' (some row)) (hne : ∀ b, v.ownBlock = some b → b ≠ row) : RowOK g w' v ws :=
  ⟨h.1.grown hb (fun k hk e => by have h2 : k = row := (by injection e); exact hne k hk h2), h.2⟩
theorem RowOK.lt {g : Nat} {w : World} {v : Value} {ws : List Nat} (h : RowOK g w v ws) (h0 : 0 < ws.length) : ∀ b, v.ownBlock = some b → b < w.heap.size := by
  intro b hb
  obtain ⟨a, c, hv, _⟩ := h.1.form
  have h1 := h.1
  rw [hv] at h1 hb
  obtain ⟨b', o', rfl⟩ := h1.addr' (by rw [List.length_map]; exact h0)
  obtain ⟨b2, o2, e, hc⟩ := h1.getI 0 h0
  injection e with e; injection e with e e'
  subst e
  have : b' = b := by injection hb
  subst this
  exact World.block_lt_of_cell? w _ hc
theorem lgW_len : ∀ i, i < 20 → (nthL lgW i).length = 4 := by decide

theorem rowOne {P : Nat → Value → Prop} {w : World} {vs : List Value} (h : ∀ i, i < eanW.length → SlAt w (vs.getD i undef) ((nthL eanW i).map I64) ∧ P i (vs.getD i undef)) (hl : vs.length = 10) : ∀ u ∈ vs, u.oneCell' = true := by
  intro u hu
  obtain ⟨i, hi, rfl⟩ := List.mem_iff_getElem.1 hu
  obtain ⟨a, c, hv, _⟩ := (h i (by show i < 10; omega)).1.form
  rw [List.getD_eq_getElem?_getD, List.getElem?_eq_getElem hi, Option.getD_some] at hv
  rw [hv]; rfl

set_option maxHeartbeats 2000000 in
set_option maxRecDepth 100000 in
theorem lgPatterns_any (w : World) :
    Calls Tryd.prog 40 #[] w fun e w' => (∃ a c, e = .returned (.slice a 20 c) ∧ TblN w.heap.size w' (.slice a 20 c) lgW) ∧ Below w.heap.size w w' := by
  obtain ⟨i0, hi, hz0, hz1, hz2⟩ := info_parts info_int
  obtain ⟨j0, hj, hy0, hy1, hy2⟩ := info_parts info_ints
  go_enter Tryd.func40, Tryd.ntmps40
  go_wp2_with (at_make; refine wpList_make_row _ rfl _ _ 62 rfl 60 j0 (.slice none 0 0) Tryd.underlying62 hj hy0 hy1 rfl .i64 .i64 20 rfl rfl (by rw [hy2]; omega) (by omega) ?_)
  have hmade : madeCells #[Value.slice none 0 0] 20 = (List.replicate 20 (Value.slice none 0 0)).toArray := by
    rw [← toList_madeCells_one]
  have hh1 := heap_alloc_new w (.cells (madeCells #[Value.slice none 0 0] 20) 60)
  rw [hmade] at hh1
  have hb1 : Below w.heap.size w (w.alloc (.cells (madeCells #[Value.slice none 0 0] 20) 60)) := below_alloc _ _
  have hs1 : (w.alloc (.cells (madeCells #[Value.slice none 0 0] 20) 60)).heap.size = w.heap.size + 1 := by simp
  rw [hmade] at hb1 hs1 ⊢
  generalize w.alloc (.cells (List.replicate 20 (Value.slice none 0 0)).toArray 60) = w1 at *
  clear hmade
  go_wp2_with fail
  refine (lPatterns_any _).mono ?_
  rintro e w2 ⟨⟨ta, tc, rfl, ht⟩, hb2⟩
  obtain ⟨vs, hv1, hv2, hv3⟩ := ht
  obtain ⟨tb, to, rfl⟩ := hv1.addr' (by rw [hv2]; decide)
  have hb2w := Below.two hb1 hb2 hb1.size
  have hh2 : w2.heap[w.heap.size]? = some (.cells (List.replicate 20 (Value.slice none 0 0)).toArray 60 (0, 0)) := by
    rw [hb2.block _ (by omega)]; exact hh1
  have hvl : vs.length = 10 := by rw [hv2]; rfl
  rw [hs1] at hv3
  clear hb1 hb2 hh1 hv2
  generalize hg : w.heap.size = g at *
  have HG := Lib.hid hg
  clear hg
  have hrows0 : ∀ i, i < 10 → RowOK g w2 (vs.getD i undef) (nthL lgW i) := fun i hi => by
    obtain ⟨h1, h2⟩ := hv3 i (by show i < 10; exact hi)
    exact ⟨by rw [lgW_low i hi]; exact h1, fun b hb => by have := h2 b hb; omega⟩
  have hone := rowOne (P := fun _ v => ∀ b, v.ownBlock = some b → g + 1 ≤ b) hv3 hvl
  obtain ⟨Z, hZ⟩ : ∃ Z : List Value, List.replicate 10 (Value.slice none 0 0) = Z := ⟨_, rfl⟩
  have hZl : Z.length = 10 := by rw [← hZ]; rfl
  have hX : ((List.replicate 20 (Value.slice none 0 0)).toArray.toList.take 0 ++ (vs ++ (List.replicate 20 (Value.slice none 0 0)).toArray.toList.drop (0 + vs.length))) = vs ++ Z := by
    rw [hvl, ← hZ]; simp
  clear hv3
  go_wp2_with (refine wpList_copy_own rfl _ _ 62 62 rfl 60 Tryd.underlying62 (by kernel_rfl) g 0 20 20 ⟨tb, to, none⟩ 10 tc rfl rfl (List.replicate 20 (Value.slice none 0 0)).toArray 60 hh2 vs (by rw [hvl]; rfl) hv1.reads' (by rw [hvl]; simp) hone ?_; rw [hX])
  have hgr3 : w2.grownBy (w2.setRow g (vs ++ Z).toArray) (some g) :=
    ⟨rfl, rfl, rfl, by simp, fun k hk hr => setRow_other _ _ _ _ (fun e => hr (by rw [e]))⟩
  have hh3 : (w2.setRow g (vs ++ Z).toArray).heap[g]? = some (.cells (vs ++ Z).toArray 60 (0, 0)) := setRow_heap _ _ _ _ _ _ hh2
  have hb3 : Below g w (w2.setRow g (vs ++ Z).toArray) := hb2w.grown hgr3 (Nat.le_trans (by rw [← HG.out]; exact Nat.le_refl _) hb2w.size) (fun k hk => by injection hk; omega)
  have hrows3 : ∀ i, i < 10 + 0 → RowOK g (w2.setRow g (vs ++ Z).toArray) ((vs ++ Z).getD i undef) (nthL lgW i) := fun i hi => by
    have := (hrows0 i (by omega)).grown hgr3
    have e : (vs ++ Z).getD i undef = vs.getD i undef := by
      simp only [List.getD]; rw [List.getElem?_append_left (by omega)]
    rw [e]; exact this
  have hcl : (vs ++ Z).length = 20 := by rw [List.length_append, hvl, hZl]
  clear hZ hZl
  generalize vs ++ Z = cur0 at *
  generalize w2.setRow g cur0.toArray = w3 at *
  have HR3 := Lib.hid hrows3
  have HH3 := Lib.hid hh3
  clear hrows0 hrows3 hh3 hgr3 hone hX hv1 hh2 hb2w hs1
  go_wp2
  go_loopw [2, 3, 4, 5] (fun i _ _ _ wr => ∃ (k : Nat) (cur : List Value), k ≤ 10 ∧ i = .int .i64 ((10 : Int) + k) ∧ cur.length = 20 ∧ Hid (wr.heap[g]? = some (.cells cur.toArray 60 (0, 0))) ∧ Hid (∀ i, i < 10 + k → RowOK g wr (cur.getD i undef) (nthL lgW i)) ∧ Below g w wr) (fun i _ _ _ _ => 20 - (intOf i).toNat)
  case atStart => exact ⟨0, cur0, Nat.zero_le _, by simp, hcl, HH3, HR3, hb3⟩
  case round =>
    clear HH3 HR3 hb3 hcl
    obtain ⟨k, cur, hk, rfl, hcl, hh, hrows, hb⟩ := hrel
    have hgl : g < wr.heap.size := (Array.getElem?_eq_some_iff.1 hh.out).1
    by_cases hlt : k < 10
    · have hf4 := (eanW_facts k hlt).1
      go_wp2_with fail
      refine (lPatterns_any _).mono ?_
      rintro e w4 ⟨⟨ta, tc, rfl, ht⟩, hb4⟩
      obtain ⟨tb, to, ra, rc, rfl, hcell, hrow, hnew⟩ := ht.get k (by show k < 10; exact hlt)
      rw [hf4] at hcell hrow
      have hb4w : Below g w w4 := hb.trans (hb4.mono (by omega))
      have hh4 : Hid (w4.heap[g]? = some (.cells cur.toArray 60 (0, 0))) := Lib.hid (by rw [hb4.block _ hgl]; exact hh.out)
      have hrows4 : Hid (∀ i, i < 10 + k → RowOK g w4 (cur.getD i undef) (nthL lgW i)) := Lib.hid (fun i hi => (hrows.out i hi).below hb4)
      have hgl4 : g < w4.heap.size := by have := hb4.size; omega
      obtain ⟨rb, ro, rfl⟩ := hrow.addr' (by rw [List.length_map, hf4]; decide)
      have hrb : rb < w4.heap.size := by
        obtain ⟨b', o', e, hc⟩ := hrow.getI 0 (by rw [hf4]; decide)
        injection e with e; injection e with e e'
        subst e
        exact World.block_lt_of_cell? w4 _ hc
      have HROW := Lib.hid hrow
      clear ht hnew hb hb4 hh hrows hrow
      go_wp2_with (at_make; refine wpList_make_full _ rfl _ _ 60 rfl w4.heap.size 3 i0 (.int .i64 0) 1 Tryd.underlying60 hi hz0 hz1 _ _ _ _ 4 rfl rfl rfl rfl (by rw [hz2]; omega) (by unfold maxLen; omega) (Nat.le_refl _) ?_)
      intro w5 hown5 hgrow5
      have hb5 : Below w4.heap.size w4 w5 := below_of_grown hgrow5 (Nat.le_refl _) (fun k hk => by cases hk)
      have hl4 : (nthL eanW k).reverse.length = 4 := by rw [List.length_reverse, hf4]
      rw [made_ints 4 (nthL eanW k).reverse] at hown5
      have hb5w : Below g w w5 := hb4w.trans (hb5.mono (by omega))
      have HH5 : Hid (w5.heap[g]? = some (.cells cur.toArray 60 (0, 0))) := Lib.hid (by rw [hb5.block _ hgl4]; exact hh4.out)
      have HROWS5 : Hid (∀ i, i < 10 + k → RowOK g w5 (cur.getD i undef) (nthL lgW i)) := Lib.hid (fun i hi => (hrows4.out i hi).below hb5)
      have HLT5 : Hid (∀ i, i < 10 + k → ∀ b, (cur.getD i undef).ownBlock = some b → b < w4.heap.size) := Lib.hid (fun i hi => (hrows4.out i hi).lt (by rw [lgW_len i (by omega)]; decide))
      have HROW5 := Lib.hid (HROW.out.below' hb5)
      have hgh : g < w4.heap.size := hgl4
      have hh5z : w4.heap.size < w5.heap.size := (hown5.lt _ rfl).2
      generalize w4.heap.size = h at *
      have HREV : Hid (∀ j, j < 4 → nth (nthL eanW k).reverse j = nth (nthL eanW k) (4 - j - 1)) := Lib.hid (fun j hj => by
        have key : ∀ k, k < 10 → ∀ j, j < 4 → nth (nthL eanW k).reverse j = nth (nthL eanW k) (4 - j - 1) := by decide
        exact key k hlt j hj)
      have HHI : Hid (nthL lgW (10 + k) = (nthL eanW k).reverse) := Lib.hid (lgW_high k hlt)
      generalize nthL eanW k = ws at *
      generalize ws.reverse = rv at *
      clear hgrow5 hb5 hb4w hh4 hrows4 hgl4 HROW hcell hgl
      go_wp2
      go_loopw [5] (fun j wr => ∃ m : Nat, m ≤ 4 ∧ j = .int .i64 m ∧ wr.ownsRow h 3 1 (.slice (some ⟨h, 0, none⟩) 4 4) 4 (fillI 4 rv m) ∧ w5.grownBy wr (some h)) (fun j _ => 4 - (intOf j).toNat)
      case atStart => exact ⟨0, Nat.zero_le _, rfl, hown5, World.grownBy.refl _ _⟩
      case round =>
        clear hown5
        obtain ⟨m, hm, rfl, hown, hg⟩ := hrel
        by_cases hlt2 : m < 4
        · have hrs := HROW5.out.grown hg (fun k' hk' e => by have h1 : rb = k' := (by injection hk'); have h2 : k' = h := (by injection e); omega)
          obtain ⟨b', o', e', hcw⟩ := hrs.getI (4 - m - 1) (by omega)
          injection e' with e'; injection e' with e1 e2
          subst e1; subst e2
          rw [← HREV.out m hlt2] at hcw
          have hc := hown.cellAt m (by omega)
          rw [fillI_get 4 rv m hl4 hlt2] at hc
          have hf := hown.frozenAt m
          have st := hown.stored m (.int .i64 (nth rv m : Int))
          rw [fillI_set 4 rv m hl4 hlt2] at st
          have hg2 := grown_trans hg st.2
          have hown2 := st.1
          have htn : ((4 : Int) - (m : Int) - 1).toNat = 4 - m - 1 := by omega
          generalize nth rv m = x at *
          clear st hown hg hrs
          go_wp2
          go_roundw
          case rel => exact ⟨m + 1, by omega, by go_num, hown2, hg2⟩
          case measure => simp [intOf]; omega
        · have hm4 : m = 4 := by omega
          subst hm4
          rw [fillI_full 4 rv hl4] at hown
          have hgw5 : g < w5.heap.size := (Array.getElem?_eq_some_iff.1 HH5.out).1
          have hhr : wr.heap[g]? = some (.cells cur.toArray 60 (0, 0)) := by
            rw [hg.block g hgw5 (fun e => by have h9 : g = h := (by injection e); omega)]; exact HH5.out
          have hrowsr : ∀ i, i < 10 + k → RowOK g wr (cur.getD i undef) (nthL lgW i) := fun i hi =>
            (HROWS5.out i hi).grownNe hg (fun b hb => by have := HLT5.out i hi b hb; omega)
          have hnew : RowOK g wr (.slice (some ⟨h, 0, none⟩) 4 4) (nthL lgW (10 + k)) := by
            rw [HHI.out]
            refine ⟨SlAt.of_own hown, fun b hb => ?_⟩
            have : h = b := by injection hb
            omega
          have hbr : Below g w wr := hb5w.grown hg (Nat.le_of_lt hgw5) (fun k' hk' => by have h9 : h = k' := (by injection hk'); omega)
          have hik : 10 + k < cur.length := by omega
          have hc : wr.cell? ⟨g, 10 + k, none⟩ = some (cur.getD (10 + k) undef) := by
            rw [cell_of_row wr g (10 + k) cur.toArray 60 (0, 0) hhr]
            simp [List.getD, hik]
          have hf : wr.frozen? ⟨g, 10 + k, none⟩ = false := by simp [World.frozen?, hhr]
          have hgs : wr.grownBy (wr.setCell ⟨g, 10 + k, none⟩ (.slice (some ⟨h, 0, none⟩) 4 4)) (some g) := grown_setCell _ _ _ _
          have HH6 : Hid ((wr.setCell ⟨g, 10 + k, none⟩ (.slice (some ⟨h, 0, none⟩) 4 4)).heap[g]? = some (.cells (cur.set (10 + k) (.slice (some ⟨h, 0, none⟩) 4 4)).toArray 60 (0, 0))) := Lib.hid (by
            rw [heap_setCell_same wr g (10 + k) cur.toArray 60 _ hhr]; simp)
          have HR6 : Hid (∀ i, i < 10 + (k + 1) → RowOK g (wr.setCell ⟨g, 10 + k, none⟩ (.slice (some ⟨h, 0, none⟩) 4 4)) ((cur.set (10 + k) (.slice (some ⟨h, 0, none⟩) 4 4)).getD i undef) (nthL lgW i)) := Lib.hid (fun i hi => by
            by_cases he : i = 10 + k
            · rw [he, show (cur.set (10 + k) (Value.slice (some ⟨h, 0, none⟩) 4 4)).getD (10 + k) undef = .slice (some ⟨h, 0, none⟩) 4 4 by simp [List.getD, hik]]
              exact hnew.grown hgs
            · rw [show (cur.set (10 + k) (Value.slice (some ⟨h, 0, none⟩) 4 4)).getD i undef = cur.getD i undef by simp only [List.getD]; rw [List.getElem?_set_ne (by omega)]]
              exact (hrowsr i (by omega)).grown hgs)
          have hb6 : Below g w (wr.setCell ⟨g, 10 + k, none⟩ (.slice (some ⟨h, 0, none⟩) 4 4)) := hbr.setCell (Nat.le_refl _) _
          have htn : ((10 : Int) + (k : Int)).toNat = 10 + k := by omega
          generalize hcv : cur.getD (10 + k) undef = cv at *
          clear hown hg hhr hrowsr hnew hbr hgs hb5w hcv hik
          go_wp2
          go_roundw
          case rel => exact ⟨k + 1, _, by omega, by go_num, by rw [List.length_set]; exact hcl, HH6, HR6, hb6⟩
          case measure => simp [intOf]; omega
    · have hk10 : k = 10 := by omega
      subst hk10
      have hsl : SlAt wr (.slice (some ⟨g, 0, none⟩) 20 20) cur := by
        refine ⟨by rw [hcl]; decide, some ⟨g, 0, none⟩, 20, by rw [hcl], by rw [hcl]; exact Nat.le_refl _, fun i hi => ⟨g, 0, rfl, ?_⟩⟩
        rw [Nat.zero_add, cell_of_row wr g i cur.toArray 60 (0, 0) hh.out]
        simp [List.getD, hi]
      have htbl : TblN w.heap.size wr (.slice (some ⟨g, 0, none⟩) 20 20) lgW := by
        refine ⟨cur, hsl, by rw [hcl]; rfl, fun i hi => ?_⟩
        have := hrows.out i (by have : i < 20 := hi; omega)
        exact ⟨this.1, fun b hb => by have h1 := this.2 b hb; have h2 := HG.out; omega⟩
      have HT := Lib.hid htbl
      rw [← HG.out] at hb
      clear htbl hsl hrows hh
      go_wp2
      go_ret
      exact ⟨⟨_, _, rfl, HT.out⟩, hb⟩
end Go.Proofs.YtpgddedhhjbgoaaDoor
