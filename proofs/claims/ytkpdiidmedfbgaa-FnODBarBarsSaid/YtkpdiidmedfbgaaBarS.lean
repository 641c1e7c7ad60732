/- Walks: spec.ODBar. -/
import Derived.Test.YtkpdiidmedfbgaaBarF
import Derived.Test.YtkpdiidmedfbgaaTab
import Derived.Test.YtkpdiidmedfbgaaBars
namespace Go.Proofs.Ytkpdiidmedfbgaa
open Go.RowKit

def barSignsB : ByteArray := ⟨#[48, 49, 50, 51, 52, 53, 54, 55, 56, 57, 45, 36, 58, 47, 46, 43, 65, 66, 67, 68]⟩
/-- So many signs of spec.ODBar: the narrow white one ahead of each but the first. -/
def barV (ds : List UInt8) (n : Nat) : List Nat := (List.range n).flatMap fun j => (if j = 0 then [] else [1]) ++ barEl (nthU ds j)
theorem barV_succ (ds : List UInt8) (n : Nat) : barV ds (n + 1) = barV ds n ++ ((if n = 0 then [] else [1]) ++ barEl (nthU ds n)) := by simp [barV, List.range_succ]
theorem barV_eq (ds : List UInt8) (n : Nat) : barV ds (n + 1) = barW ds n ++ barEl (nthU ds n) := by
  induction n with
  | zero => simp [barV, barW]
  | succ n ih => rw [barV_succ, ih, barW_succ, if_neg (by omega)]; simp
theorem barV_length (ds : List UInt8) (n : Nat) : (barV ds n).length ≤ 8 * n := by
  cases n with
  | zero => simp [barV]
  | succ n => rw [barV_eq, List.length_append, barW_length, barEl_length]; omega

set_option maxHeartbeats 2000000 in
set_option maxRecDepth 100000 in
theorem ODBar_any (s : ByteArray) (w : World) (hs : 0 < s.size) (hl : s.size ≤ 10000) (hd : ∀ i, i < s.size → nthU (bl s) i ∈ barSigns) :
    Calls Try.prog 16 #[.string s] w fun e w' =>
      ∃ v', e = .returned v' ∧ w'.ownsRow w.heap.size 4 1 v' (bars (barWidths (bl s))).length ((bars (barWidths (bl s))).map .bool) ∧ Below w.heap.size w w' := by
  obtain ⟨i0, hi, hz0, hz1, hz2⟩ := info_parts info_int
  have HBL := Lib.hid (bl_length s)
  have HD := Lib.hid hd
  clear hd
  go_enter Try.func16, Try.ntmps16
  go_wp2
  go_loopw [3, 4] (fun o i wr => ∃ n : Nat, n ≤ s.size ∧ i = .int .i64 n ∧ wr.ownsRow w.heap.size 3 1 o (barV (bl s) n).length ((barV (bl s) n).map I64) ∧ Below w.heap.size w wr) (fun _ i _ => s.size - (intOf i).toNat)
  case atStart => exact ⟨0, Nat.zero_le _, rfl, World.ownsRow_nil _ _ _ _, Below.refl _ _⟩
  case round =>
    obtain ⟨n, hn, rfl, hown, hb⟩ := hrel
    by_cases hlt : n < s.size
    · have hbyte := bl_get s n hlt
      have hmem := HD.out n hlt
      have hidx := idxU_lt hmem
      have hvl := barV_length (bl s) n
      have hvs := Lib.hid (barV_succ (bl s) n)
      have hel : Hid (barEl (nthU (bl s) n) = elements (nth barBitsT (idxU barSigns (nthU (bl s) n))) 7 2) := Lib.hid rfl
      have hbs : barSigns.length = 20 := rfl
      rw [hbs] at hidx
      have hbits := nth_le barBitsT_le (idxU barSigns (nthU (bl s) n))
      generalize nthU (bl s) n = A at *
      have HMEM := Lib.hid hmem
      clear hmem hbs
      have hsz := hb.size
      by_cases h0 : n = 0
      case' pos =>
        have hvs' : Hid (barV (bl s) (n + 1) = barV (bl s) n ++ barEl A) := Lib.hid (by rw [hvs.out, if_pos h0]; simp)
        have hown' := hown
        have hb5 := hb
        have hl5 : (barV (bl s) n).length ≤ 8 * n + 1 := by omega
        subst h0
        clear hown hb
        generalize barV (bl s) 0 = L at *
        go_wp2_with fail
      case' neg =>
        have hn0 : (0 : Int) < n := by omega
        have hvs' : Hid (barV (bl s) (n + 1) = (barV (bl s) n ++ [1]) ++ barEl A) := Lib.hid (by rw [hvs.out, if_neg h0, List.append_assoc])
        go_wp2_with (at_builtin; refine wpList_append_lies _ rfl _ _ 35 rfl w.heap.size 3 i0 (.int .i64 0) 1 8 Try.underlying35 hi hz0 hz1 hz2 rfl (by decide) _ _ _ rfl (hown.alloc _) ⟨wr.heap.size, 0, none⟩ 1 1 [I64 1] rfl rfl ?c1 ?c2 ?c0 ?c3 ?c4 ?c5 _ rfl ?_)
        case c1 => exact one_new _ _ _
        case c2 => exact ints_one [1]
        case c0 => decide
        case c3 => unfold maxLen; omega
        case c4 => omega
        case c5 => simp; omega
        intro g cap w5 hown' hgrow hat hlt5
        have hb5 : Below w.heap.size w w5 := app_below hb hsz hown hgrow
        have e5 : ((barV (bl s) n).map I64 ++ [I64 1]) = (barV (bl s) n ++ [1]).map I64 := by simp
        have l5 : (barV (bl s) n).length + 1 = (barV (bl s) n ++ [1]).length := by simp
        have hl5 : (barV (bl s) n ++ [1]).length ≤ 8 * n + 1 := by rw [← l5]; omega
        rw [e5] at hown'
        generalize hvv : Value.slice (some ⟨g, 0, none⟩) ((barV (bl s) n).length + 1) cap = vv at *
        rw [l5] at hown'
        clear hgrow hat hown e5 hb l5
        generalize barV (bl s) n ++ [1] = L at *
        go_wp2_with fail
      all_goals
        refine (odAt_any barSignsB A HMEM.out (by decide) _).mono ?_
        rintro e w6 ⟨rfl, rfl⟩
        go_wp2_with fail
        refine (odBarBits_int _ (by omega) (by show (idxU barSigns A : Int) < 20; omega) _).mono ?_
        rintro e w6 ⟨rfl, hb6⟩
        have hb6' := Below.two hb5 hb6 hb5.size
        have hown6 := own_below hown' hb6
        clear hb6 hown' hb5
        have hq1 : ((nth barBitsT ((idxU (bl barSignsB) A : Int)).toNat : Nat) : Int) ≤ 1000000 := by
          show ((nth barBitsT ((idxU barSigns A : Int)).toNat : Nat) : Int) ≤ 1000000
          rw [Int.toNat_natCast]; omega
        go_wp2_with fail
        refine (odElements_int _ _ _ (by omega) hq1 (by omega) (by omega) (by omega) (by omega) _).mono ?_
        rintro e w7 ⟨v7, rfl, hown7, hb7⟩
        have hb7' := Below.two hb6' hb7 hb6'.size
        have hown7' := own_below hown6 hb7
        have e7 : (elements ((nth barBitsT ((idxU (bl barSignsB) A : Int)).toNat : Nat) : Int).toNat (7 : Int).toNat (2 : Int).toNat) = barEl A := by
          rw [hel.out, Int.toNat_natCast, Int.toNat_natCast]; rfl
        rw [e7] at hown7
        obtain ⟨g7, c7, rfl, hg7a, hg7b⟩ := own_slice hown7 (by decide)
        have hc7 := hown7.cells (g := g7) rfl
        clear hb7 hown6 hb6' hq1 e7
        have hl7 : (L ++ barEl A).length = L.length + 7 := by rw [List.length_append, barEl_length]
        have hsz7 := hb7'.size
        go_wp2_with (at_builtin; refine wpList_append_lies _ rfl _ _ 35 rfl w.heap.size 3 i0 (.int .i64 0) 1 8 Try.underlying35 hi hz0 hz1 hz2 rfl (by decide) _ _ _ rfl hown7' ⟨g7, 0, none⟩ 7 c7 ((barEl A).map I64) rfl (by rw [List.length_map, barEl_length]) hc7 ?d2 ?d0 ?d3 ?d4 ?d5 _ rfl ?_)
        case d2 => exact ints_one _
        case d0 => decide
        case d3 => unfold maxLen; omega
        case d4 => omega
        case d5 => exact hsz7
        intro g8 cap8 w8 hown8 hgrow8 hat8 hlt8
        have hb8 : Below w.heap.size w w8 := app_below0 hb7' hsz7 hown7' hgrow8
        generalize hv8 : Value.slice (some ⟨g8, 0, none⟩) (L.length + 7) cap8 = v8 at *
        rw [← List.map_append, ← hl7, ← hvs'.out] at hown8
        clear hgrow8 hat8 hown7 hown7' hb7' hc7 hl7
        go_wp2
        go_roundw
        case rel => exact ⟨_, by omega, by go_num, hown8, hb8⟩
        case measure => simp [intOf]; omega
    · have hn' : n = (s.size - 1) + 1 := by omega
      have hW : Hid (barV (bl s) n = barWidths (bl s)) := Lib.hid (by rw [hn', barV_eq, barWidths, HBL.out])
      rw [hW.out] at hown
      have hle := barWidths_le (bl s)
      have hlen := barWidths_length (bl s) (by rw [HBL.out]; exact hs)
      rw [HBL.out] at hlen
      clear hn'
      go_wp2_with fail
      refine (ODBars_any (barWidths (bl s)) _ _ (SlAt.of_own hown) hle (by omega)).mono ?_
      rintro e w6 ⟨v6, rfl, hown6, hb6⟩
      go_wp2
      go_ret
      exact ⟨_, rfl, own_mono hown6 hb.size, Below.two hb hb6 hb.size⟩
end Go.Proofs.Ytkpdiidmedfbgaa
