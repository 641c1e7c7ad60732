/- Walks: spec.OD93. (Printed by gen93S.py.) -/
import Derived.Test.Ytpgddedhhjbgoaa93C
import Derived.Test.YtpgddedhhjbgoaaBarF
import Derived.Test.YtpgddedhhjbgoaaTab
namespace Go.Proofs.Ytpgddedhhjbgoaa
open Go.RowKit

theorem blk_ne93 {g q n c : Nat} (h : q ≠ g) : (Value.slice (some ⟨q, 0, none⟩) n c).ownBlock ≠ some g := fun e => h (by injection e)
theorem bit9_eq (a m q : Nat) (ha : a ≤ 1000) (h : q + m = 8) : (bits .and .i64 ((a : Int) / 2 ^ q) 1 == 1) = bit9 a m := by
  unfold bit9
  rw [show 8 - m = q by omega]
  by_cases hb : (a >>> q) % 2 = 1
  · rw [bit_yes a q (by omega) hb]; simp [hb]
  · rw [bit_no a q (by omega) hb]; simp [hb]
/-- All the values of a row. -/
def full93 (ds : List UInt8) : List Nat := [47] ++ checked2 (vals93 ds) ++ [47]
theorem full93_length (ds : List UInt8) : (full93 ds).length = ds.length + 4 := by
  simp only [full93, checked2, checked1, List.length_append, List.length_cons, List.length_nil, vals93_length]; omega
theorem full93_eq (ds : List UInt8) : [47] ++ vals93 ds ++ [check93 (vals93 ds) 20, check93 (checked1 (vals93 ds)) 15] ++ [47] = full93 ds := by
  simp [full93, checked2, checked1]
theorem full93_lt (ds : List UInt8) (h : ∀ c ∈ ds, c ∈ signs93) : ∀ x ∈ full93 ds, x ≤ 47 := by
  intro x hx
  have h1 := check93_lt (vals93 ds) 20
  have h2 := check93_lt (checked1 (vals93 ds)) 15
  rw [← full93_eq] at hx
  simp only [List.mem_append, List.mem_cons, List.not_mem_nil, or_false] at hx
  rcases hx with ((hx | hx) | hx | hx) | hx
  · omega
  · have := vals93_le ds h x hx; omega
  · omega
  · omega
  · omega
theorem mods93_take (l : List Nat) (j : Nat) (h : j < l.length) : mods93 (l.take (j + 1)) = mods93 (l.take j) ++ bits9 (nth bits93T (nth l j)) := by
  rw [List.take_succ_eq_append_getElem h, mods93_append, mods93_one, nth_eq h]

set_option maxHeartbeats 4000000 in
set_option maxRecDepth 100000 in
theorem OD93_any (s : ByteArray) (w : World) (h0 : 0 < s.size) (hl : s.size ≤ 500) (hd : ∀ c ∈ bl s, c ∈ signs93) :
    Calls Try.prog 13 #[.string s] w fun e w' =>
      ∃ v', e = .returned v' ∧ w'.ownsRow w.heap.size 4 1 v' (row93 (bl s)).length ((row93 (bl s)).map .bool) ∧ Below w.heap.size w w' := by
  obtain ⟨i0, hi, hz0, hz1, hz2⟩ := info_parts info_int
  obtain ⟨j0, hj, hy0, hy1, hy2⟩ := info_parts info_bool
  have HD := Lib.hid (all_memU hd)
  have H46 := Lib.hid (vals93_le (bl s) hd)
  have HFL := Lib.hid (full93_lt (bl s) hd)
  have hvl : (vals93 (bl s)).length = s.size := by rw [vals93_length, bl_length]
  have hfl : (full93 (bl s)).length = s.size + 4 := by rw [full93_length, bl_length]
  have HVN : Hid (∀ k, k < s.size → nth (vals93 (bl s)) k = idxU signs93 (nthU (bl s) k)) := Lib.hid (fun k hk => vals93_nth _ _ (by rw [bl_length]; exact hk))
  have HFE := Lib.hid (full93_eq (bl s))
  have HROW : Hid (mods93 (full93 (bl s)) ++ [true] = row93 (bl s)) := Lib.hid rfl
  generalize hV : vals93 (bl s) = V at *
  generalize hF : full93 (bl s) = F at *
  clear hd hV hF
  go_enter Try.func13, Try.ntmps13
  go_wp2
  go_loopw [3, 4] (fun o i wr => ∃ k : Nat, k ≤ s.size ∧ i = .int .i64 k ∧ wr.ownsRow w.heap.size 3 1 o k ((V.map I64).take k) ∧ Below w.heap.size w wr) (fun _ i _ => s.size - (intOf i).toNat)
  case atStart => exact ⟨0, Nat.zero_le _, rfl, World.ownsRow_nil _ _ _ _, Below.refl _ _⟩
  case round =>
    obtain ⟨k, hk, rfl, hown, hb⟩ := hrel
    have hsz := hb.size
    by_cases hlt : k < s.size
    · have hbyte := bl_get s k hlt
      have HMEM := Lib.hid (HD.out k hlt)
      have hnx : Hid ((V.map I64).take k ++ [I64 (idxU signs93 (nthU (bl s) k))] = (V.map I64).take (k + 1)) := Lib.hid (by
        rw [List.take_succ_eq_append_getElem (by rw [List.length_map]; omega), List.getElem_map, ← nth_eq (by omega), HVN.out k hlt])
      generalize nthU (bl s) k = A at *
      go_wp2_with fail
      refine (odAt_any signs93B A HMEM.out (by decide) _).mono ?_
      rintro e wo ⟨rfl, rfl⟩
      rw [bl_signs93]
      generalize idxU signs93 A = ix at *
      go_wp2_with (at_builtin; go_loud (refine wpList_append_lies _ rfl _ _ 31 rfl w.heap.size 3 i0 (.int .i64 0) 1 8 Try.underlying31 hi hz0 hz1 hz2 rfl (by decide) _ _ _ rfl (hown.alloc _) ⟨wo.heap.size, 0, none⟩ 1 1 ([I64 ix]) rfl (rfl) (one_new wo _ _) (ints_one [ix]) (by decide) (by unfold maxLen; first | omega | (simp; omega)) (by first | omega | (simp; omega)) (by simp; omega) _ rfl ?_))
      intro g cap w5 hown5 hgrow hat hlt5
      have hb5 : Below w.heap.size w w5 := app_below hb hsz hown hgrow
      rw [hnx.out] at hown5
      generalize Value.slice (some ⟨g, 0, none⟩) (k + 1) cap = vv at *
      clear hgrow hat hown hb
      go_wp2
      go_roundw
      case rel => exact ⟨k + 1, by omega, by go_num, hown5, hb5⟩
      case measure => simp [intOf]; omega
    · have hks : k = s.size := by omega
      rw [List.take_of_length_le (by rw [List.length_map]; omega), hks] at hown
      clear hks HVN
      obtain ⟨gv, cv, rfl, hgv1, hgv2⟩ := own_slice hown (by omega)
      have hsv := (SlAt.of_own hown).below' (below_alloc wr (.cells #[I64 47] 3))
      go_wp2_with (at_builtin; go_loud (refine wpList_append_lies _ rfl _ _ 31 rfl w.heap.size 3 i0 (.int .i64 0) 1 8 Try.underlying31 hi hz0 hz1 hz2 rfl (by decide) _ _ _ rfl (own_mono (own_lit wr 3 [I64 47] (by decide)) hsz) ⟨gv, 0, none⟩ s.size cv (V.map I64) rfl (by rw [List.length_map, Nat.mul_one]; exact hvl) (hsv.reads) (ints_one _) h0 (by unfold maxLen; first | omega | (simp; omega)) (by first | omega | (simp; omega)) (by simp; omega) _ rfl ?_))
      intro g5 cap5 w5 hown5 hgrow hat hlt5
      have hb5 : Below w.heap.size w w5 := (hb.alloc hsz _).grown hgrow (by simp; omega) (fun k hk => (by have h9 : wr.heap.size = k := (by injection hk); omega))
      have hsv5 := hsv.grown hgrow (fun k hk e => (by have h1 : gv = k := (by injection hk); have h2 : k = wr.heap.size := (by injection e); omega))
      clear hgrow hat hb hsz hsv hown hgv1 hgv2 hlt
      generalize Value.slice (some ⟨g5, 0, none⟩) (1 + s.size) cap5 = va at *
      go_wp2_with fail
      refine (OD93Checks_any V _ _ (by omega) (by omega) H46.out hsv5).mono ?_
      rintro e w6 ⟨⟨gc, cc, rfl, hsc⟩, hb6⟩
      rw [hvl] at hsc
      have hown6 := own_below hown5 hb6
      have hb6w := Below.two hb5 hb6 hb5.size
      clear hb5 hb6 hown5 hsv5
      have hsz6 := hb6w.size
      generalize check93 V 20 = cA at *
      generalize check93 (checked1 V) 15 = cB at *
      go_wp2_with (at_builtin; go_loud (refine wpList_append_lies _ rfl _ _ 31 rfl w.heap.size 3 i0 (.int .i64 0) 1 8 Try.underlying31 hi hz0 hz1 hz2 rfl (by decide) _ _ _ rfl (hown6) ⟨gc, s.size, none⟩ 2 cc ([cA, cB].map I64) rfl (rfl) (hsc.reads) (ints_one _) (by decide) (by unfold maxLen; first | omega | (simp; omega)) (by first | omega | (simp; omega)) (hsz6) _ rfl ?_))
      intro g7 cap7 w7 hown7 hgrow hat hlt7
      have hb7 : Below w.heap.size w w7 := app_below0 hb6w hsz6 hown6 hgrow
      have hsz7 := hb7.size
      generalize Value.slice (some ⟨g7, 0, none⟩) (1 + s.size + 2) cap7 = vb at *
      clear hgrow hat hb6w hsz6 hown6 hsc hlt7
      go_wp2_with (at_builtin; go_loud (refine wpList_append_lies _ rfl _ _ 31 rfl w.heap.size 3 i0 (.int .i64 0) 1 8 Try.underlying31 hi hz0 hz1 hz2 rfl (by decide) _ _ _ rfl (hown7.alloc _) ⟨w7.heap.size, 0, none⟩ 1 1 ([I64 47]) rfl (rfl) (one_new w7 _ _) (ints_one [47]) (by decide) (by unfold maxLen; first | omega | (simp; omega)) (by first | omega | (simp; omega)) (by simp; omega) _ rfl ?_))
      intro g8 cap8 w8 hown8 hgrow hat hlt8
      have hb8 : Below w.heap.size w w8 := app_below hb7 hsz7 hown7 hgrow
      have e8 : I64 47 :: (V.map I64 ++ [I64 cA, I64 cB, I64 47]) = F.map I64 := by rw [← HFE.out]; simp
      have hl8 : 1 + s.size + 2 + 1 = s.size + 4 := by omega
      rw [e8, hl8] at hown8
      have hslF := SlAt.of_own hown8
      generalize hvv : Value.slice (some ⟨g8, 0, none⟩) (1 + s.size + 2 + 1) cap8 = vF at *
      rw [hl8] at hvv
      have HVF := Lib.hid hvv
      clear hgrow hat hb7 hsz7 hown7 hown8 HFE H46 hvl e8 hlt8 hlt5 hl8 hvv hk
      subst vF
      go_wp2
      obtain ⟨wz, rfl⟩ : ∃ wz : World, wz = w8 := ⟨_, rfl⟩
      go_loopw [6, 7, 8] (fun o i _ wr => ∃ j : Nat, j ≤ s.size + 4 ∧ i = .int .i64 j ∧ wr.ownsRow wz.heap.size 4 1 o (9 * j) ((mods93 (F.take j)).map .bool) ∧ Below wz.heap.size wz wr) (fun _ i _ _ => s.size + 4 - (intOf i).toNat)
      case atStart => exact ⟨0, Nat.zero_le _, rfl, World.ownsRow_nil _ _ _ _, Below.refl _ _⟩
      case round =>
        obtain ⟨j, hjn, rfl, hown, hb⟩ := hrel
        have hsz := hb.size
        by_cases hlt : j < s.size + 4
        · have hltI : (j : Int) < (s.size : Int) + 4 := by omega
          have hn47 := nth_le HFL.out j
          have HMT := Lib.hid (mods93_take F j (by omega))
          generalize mods93 (F.take j) = M at *
          have hcode := nth_le bits93T_le (nth F j)
          go_wp2
          go_loopw [6, 8] (fun o kk wr => ∃ m : Nat, m ≤ 9 ∧ kk = .int .i64 ((8 : Int) - m) ∧ wr.ownsRow wz.heap.size 4 1 o (9 * j + m) ((M ++ bits9k (nth bits93T (nth F j)) m).map .bool) ∧ Below wz.heap.size wz wr) (fun _ kk _ => (intOf kk + 1).toNat)
          case atStart => exact ⟨0, Nat.zero_le _, rfl, by simpa [bits9k] using hown, hb⟩
          case round =>
            clear hown hb hsz
            obtain ⟨m, hm, rfl, hown, hb⟩ := hrel
            have hsz := hb.size
            by_cases hlt2 : m < 9
            · obtain ⟨q, hqm⟩ : ∃ q : Nat, q + m = 8 := ⟨8 - m, by omega⟩
              have hq : (8 : Int) - (m : Int) = (q : Int) := by omega
              rw [hq]
              have hbit := bit9_eq (nth bits93T (nth F j)) m q hcode hqm
              have hnx : (M ++ bits9k (nth bits93T (nth F j)) m).map Value.bool ++ [.bool (bit9 (nth bits93T (nth F j)) m)] = (M ++ bits9k (nth bits93T (nth F j)) (m + 1)).map Value.bool := by
                rw [bits9k_succ, ← List.append_assoc, List.map_append (l₁ := M ++ _)]; rfl
              obtain ⟨bF, oF, eF, hcF⟩ := (hslF.below' hb).getI j (by omega)
              injection eF with eF; injection eF with e1 e2
              subst e1; subst e2
              rw [Nat.zero_add] at hcF
              have hq8 : q ≤ 8 := by omega
              have HQM := Lib.hid hqm
              have HNX := Lib.hid hnx
              clear hq hqm hnx
              have htn : ((nth F j : Nat) : Int).toNat = nth F j := Int.toNat_natCast _
              have HTN := Lib.hid htn
              clear htn
              generalize (M ++ bits9k (nth bits93T (nth F j)) m).map Value.bool = XS at *
              generalize bit9 (nth bits93T (nth F j)) m = B at *
              have hn0 : (0 : Int) ≤ ((nth F j : Nat) : Int) := by omega
              go_wp2_with fail
              refine (od93Bits_int ((nth F j : Nat) : Int) hn0 (by omega) _).mono ?_
              rintro e wa ⟨rfl, hba⟩
              rw [HTN.out]
              have hba' := Below.two hb hba hb.size
              have hown' := own_below hown hba
              have hsz' := hba'.size
              generalize hcd : nth bits93T (nth F j) = code at *
              have HCD := Lib.hid hcd
              clear hcd
              clear hb hba hown hsz hcF
              go_wp2_with (at_builtin; go_loud (refine wpList_append_lies _ rfl _ _ 24 rfl wz.heap.size 4 j0 (.bool false) 1 1 Try.underlying24 hj hy0 hy1 hy2 rfl (by decide) _ _ _ rfl (hown'.alloc _) ⟨wa.heap.size, 0, none⟩ 1 1 ([.bool B]) rfl (rfl) (one_new wa _ _) (bools_one [B]) (by decide) (by unfold maxLen; first | omega | (simp; omega)) (by first | omega | (simp; omega)) (by simp; omega) _ rfl ?_))
              intro g9 cap9 w9 hown9 hgrow hat hlt9
              have hb9 : Below wz.heap.size wz w9 := app_below hba' hsz' hown' hgrow
              rw [HNX.out] at hown9
              generalize Value.slice (some ⟨g9, 0, none⟩) (9 * j + m + 1) cap9 = vv at *
              clear hgrow hat hown' hba'
              go_wp2
              go_roundw
              case rel => exact ⟨m + 1, by omega, (by have := HQM.out; go_num), by rw [HCD.out]; exact hown9, hb9⟩
              case measure => first | (simp [intOf]; done) | (simp [intOf]; omega)
            · have hm9 : m = 9 := by omega
              rw [hm9, bits9k_full, ← HMT.out] at hown
              subst hm9
              go_wp2
              go_roundw
              case rel => exact ⟨j + 1, by omega, by go_num, by rw [show 9 * (j + 1) = 9 * j + 9 by omega]; exact hown, hb⟩
              case measure => first | (simp [intOf]; done) | (simp [intOf]; omega)
        · have hjF : j = s.size + 4 := by omega
          have hfin : Hid ((mods93 (F.take j)).map Value.bool ++ [.bool true] = (row93 (bl s)).map .bool) := Lib.hid (by
            rw [← HROW.out, List.take_of_length_le (by omega), List.map_append]; rfl)
          have hrl : (row93 (bl s)).length = 9 * j + 1 := by rw [row93_length, bl_length]; omega
          have HRL := Lib.hid hrl
          clear hjF hrl
          generalize (mods93 (F.take j)).map Value.bool = XS at *
          go_wp2_with (at_builtin; go_loud (refine wpList_append_lies _ rfl _ _ 24 rfl wz.heap.size 4 j0 (.bool false) 1 1 Try.underlying24 hj hy0 hy1 hy2 rfl (by decide) _ _ _ rfl (hown.alloc _) ⟨wr.heap.size, 0, none⟩ 1 1 ([.bool true]) rfl (rfl) (one_new wr _ _) (bools_one [true]) (by decide) (by unfold maxLen; first | omega | (simp; omega)) (by first | omega | (simp; omega)) (by simp; omega) _ rfl ?_))
          intro g9 cap9 w9 hown9 hgrow hat hlt9
          have hb9 : Below wz.heap.size wz w9 := app_below hb hsz hown hgrow
          rw [hfin.out] at hown9
          generalize Value.slice (some ⟨g9, 0, none⟩) (9 * j + 1) cap9 = vv at *
          clear hgrow hat hown hb
          go_wp2
          go_ret
          exact ⟨_, rfl, by rw [HRL.out]; exact own_mono hown9 hb8.size, Below.two hb8 hb9 hb8.size⟩
end Go.Proofs.Ytpgddedhhjbgoaa
